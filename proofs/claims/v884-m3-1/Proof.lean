import JvmDerived
import JvmDerived.Pilot.@@N@@Statement
import JvmDerived.Pilot.@@N@@Code
set_option linter.unusedVariables false
set_option linter.unusedSimpArgs false
namespace Jvm.Pilot.@@N@@
open Jvm Jvm.ClassFile Sem Op Lib Jvm.Free Jvm.Stand Jvm.LawKit Jvm.RoadKit Bundle Jvm.Pilot.@@N@@.Jvm.D
theorem own_k {Z : State} {a0 : Array Value} (hw : ∀ d ∈ tables_1, d.before a0 Z = true) {d : Jvm.Cond} (i : Nat) (h : tables_1[i]? = some d) : d.before a0 Z = true := hw d (List.mem_of_getElem? h)
theorem own_nn32 {n : Nat} (h : n < 2147483648) : ¬ Int32.ofNat n < 0 := by
  rw [Int32.lt_iff_toInt_lt, Int32.toInt_ofNat_of_lt (by omega), show (0 : Int32).toInt = 0 from rfl]
  omega
/-- from here the run ends as F says -/
def own_G (p : Program) (e : Env) (below : List Frame) (T : State) (g : JFrame) (F : State → Prop) : Prop := ∃ s₂, Steps p.tables e below (T.setTop g) s₂ ∧ F s₂
theorem own_st {p : Program} {e : Env} {below : List Frame} {T T' : State} {g g' : JFrame} {F : State → Prop} (h : ∀ target, Steps p.tables e below (T'.setTop g') target → Steps p.tables e below (T.setTop g) target) (k : own_G p e below T' g' F) : own_G p e below T g F := by
  obtain ⟨s2, a, b⟩ := k
  exact ⟨s2, h _ a, b⟩
theorem own_tr {p : Program} {e : Env} {below : List Frame} {T T' : State} {g g' : JFrame} {F : State → Prop} (h : Steps p.tables e below (T.setTop g) (T'.setTop g')) (k : own_G p e below T' g' F) : own_G p e below T g F := by
  obtain ⟨s2, a, b⟩ := k
  exact ⟨s2, h.trans a, b⟩
theorem own_end {p : Program} {e : Env} {below : List Frame} {T s2 : State} {g : JFrame} {F : State → Prop} (h : Steps p.tables e below (T.setTop g) s2) (k : F s2) : own_G p e below T g F := ⟨s2, h, k⟩
theorem own_join {α : Type} {p : Program} {e : Env} {below : List Frame} {T : State} {g : JFrame} {gj : α → JFrame} {P : α → Prop} {F : State → Prop} (k : ∀ q, P q → own_G p e below T (gj q) F) (h : (∀ q, P q → own_G p e below T (gj q) F) → own_G p e below T g F) : own_G p e below T g F := h k
abbrev own_E (s : State) (below : List Frame) (R : Room) (Q : Option Value → Heap → List Loc → Prop) : State → Prop := fun s₂ => ∃ o, s₂.status = .running ∧ Ended s₂ below o ∧ ∃ v L, o = .returned v ∧ Q v s₂.heap L ∧ FrameEnd s o s₂ L R.cells R.slots
abbrev own_EndW (s : State) (below : List Frame) (R : Room) (Q : Option Value → Heap → List Loc → Prop) : State → Prop := fun s₂ => ∃ o, s₂.status = .running ∧ Ended s₂ below o ∧ ∃ v L, o = .returned v ∧ Q v s₂.heap L ∧ ReturnedEndW s o s₂ L R.cells R.slots
abbrev own_EndH (Z : State) (EL : List (String × Nat)) (s : State) (below : List Frame) (R : Room) (Q : Option Value → Heap → List Loc → Prop) : State → Prop := fun s₂ => ∃ o, s₂.status = .running ∧ Ended s₂ below o ∧ ∃ v L, o = .returned v ∧ Q v s₂.heap L ∧ CHr Z EL s.vm s.heap s₂.vm s₂.heap ∧ ReturnedEndW s o s₂ L R.cells R.slots
abbrev own_M (l : Launch) (y : MethodName) (bs : ByteArray) (ml : Nat) (rt : Option FieldType) (ws : List Jvm.Cond) (R : Room) (as' : Array Value) (Z : State) (h0 : Heap) (Q : Option Value → Heap → List Loc → Prop) : Prop :=
  MetFree l y (head1 (Jvm.Cond.code y bs ml rt :: ws) R) (fun av U => av = as' ∧ Z.Warmed39 U.vm ∧ U.heap = h0) (fun _ _ _ _ _ => True) (fun _ U o U' => ∃ v L, o = .returned v ∧ Q v U'.heap L ∧ FrameEnd U o U' L R.cells R.slots)
abbrev own_MW (l : Launch) (y : MethodName) (bs : ByteArray) (ml : Nat) (rt : Option FieldType) (ws : List Jvm.Cond) (R : Room) (as' : Array Value) (Z : State) (h0 : Heap) (Q : Option Value → Heap → List Loc → Prop) : Prop :=
  MetFree l y (head1 (Jvm.Cond.code y bs ml rt :: ws) R) (fun av U => av = as' ∧ Z.Warmed39 U.vm ∧ U.heap = h0) (fun _ _ _ _ _ => True) (fun _ U o U' => ∃ v L, o = .returned v ∧ Q v U'.heap L ∧ ReturnedEndW U o U' L R.cells R.slots)
abbrev own_MH (EL : List (String × Nat)) (l : Launch) (y : MethodName) (bs : ByteArray) (ml : Nat) (rt : Option FieldType) (ws : List Jvm.Cond) (R : Room) (as' : Array Value) (Z : State) (h0 : Heap) (Q : Option Value → Heap → List Loc → Prop) : Prop :=
  MetFree l y (head1 (Jvm.Cond.code y bs ml rt :: ws) R) (fun av U => av = as' ∧ Z.Warmed39 U.vm ∧ U.heap = h0 ∧ CHv Z EL U.vm h0) (fun _ _ _ _ _ => True) (fun _ U o U' => ∃ v L, o = .returned v ∧ Q v U'.heap L ∧ CHr Z EL U.vm U.heap U'.vm U'.heap ∧ ReturnedEndW U o U' L R.cells R.slots)
theorem own_go {l : Launch} {y : MethodName} {bs : ByteArray} {ml : Nat} {rt : Option FieldType} {ws : List Jvm.Cond} {R : Room} {as' : Array Value} {Z : State} {h0 : Heap} {Q : Option Value → Heap → List Loc → Prop} (hpn : plainFor y = true) {ff : MethodId → JFrame} (hff : ∀ m, entryFrame m as' ml = ff m)
    (body : ∀ p e s m below meth c s₁, BodyLoose p l y (head1 (Jvm.Cond.code y bs ml rt :: ws) R) bs ml rt e s m as' below meth c s₁ → p.tables.exec = Jvm.exec → c.code = bs → c.maxLocals = ml → Z.Warmed39 s.vm → s.heap = h0 → s.vm.findClass y.cls = some m.cls → meth.name = y.name → Stand p l e R s m as' below meth c s₁ [] 0 0 → s₁.heap = h0 → own_G p e below s₁ (ff m) (own_E s below R Q)) : own_M l y bs ml rt ws R as' Z h0 Q := by
  refine MetFree.of_bodySF hpn hisR ?_
  intro p e s m args below meth c s₁ Bd hml0 hP hK
  obtain ⟨rfl, hZ, hh⟩ := hP
  obtain ⟨s2, g1, o, g2⟩ := body p e s m below meth c s₁ Bd Bd.exec Bd.bytes hml0 hZ hh (findClass_of_methodNamed Bd.named) (name_of_methodNamed Bd.named Bd.method).1 (Stand.of_body Bd) (by rw [← hh, Bd.state]; rfl)
  exact ⟨s2, o, castTop (hff m) g1, g2⟩
theorem own_goW {l : Launch} {y : MethodName} {bs : ByteArray} {ml : Nat} {rt : Option FieldType} {ws : List Jvm.Cond} {R : Room} {as' : Array Value} {Z : State} {h0 : Heap} {Q : Option Value → Heap → List Loc → Prop} (hpn : plainFor y = true) {ff : MethodId → JFrame} (hff : ∀ m, entryFrame m as' ml = ff m)
    (body : ∀ p e s m below meth c s₁, BodyLoose p l y (head1 (Jvm.Cond.code y bs ml rt :: ws) R) bs ml rt e s m as' below meth c s₁ → p.tables.exec = Jvm.exec → c.code = bs → c.maxLocals = ml → Z.Warmed39 s.vm → s.heap = h0 → s.vm.findClass y.cls = some m.cls → meth.name = y.name → Stand p l e R (s.setVm s.vm) m as' below meth c s₁ [] 0 0 → s₁.heap = h0 → s.Since s.vm h0.size → own_G p e below s₁ (ff m) (own_EndW s below R Q)) : own_MW l y bs ml rt ws R as' Z h0 Q := by
  refine MetFree.of_bodySF hpn hisR ?_
  intro p e s m args below meth c s₁ Bd hml0 hP hK
  obtain ⟨rfl, hZ, hh⟩ := hP
  obtain ⟨s2, g1, o, g2⟩ := body p e s m below meth c s₁ Bd Bd.exec Bd.bytes hml0 hZ hh (findClass_of_methodNamed Bd.named) (name_of_methodNamed Bd.named Bd.method).1 (Stand.of_body Bd) (by rw [← hh, Bd.state]; rfl) ((State.WarmedH.refl s).since _)
  exact ⟨s2, o, castTop (hff m) g1, g2⟩
theorem own_goH {EL : List (String × Nat)} {l : Launch} {y : MethodName} {bs : ByteArray} {ml : Nat} {rt : Option FieldType} {ws : List Jvm.Cond} {R : Room} {as' : Array Value} {Z : State} {h0 : Heap} {Q : Option Value → Heap → List Loc → Prop} (hpn : plainFor y = true) {ff : MethodId → JFrame} (hff : ∀ m, entryFrame m as' ml = ff m)
    (body : ∀ p e s m below meth c s₁, BodyLoose p l y (head1 (Jvm.Cond.code y bs ml rt :: ws) R) bs ml rt e s m as' below meth c s₁ → p.tables.exec = Jvm.exec → c.code = bs → c.maxLocals = ml → Z.Warmed39 s.vm → s.heap = h0 → s.vm.findClass y.cls = some m.cls → meth.name = y.name → Stand p l e R (s.setVm s.vm) m as' below meth c s₁ [] 0 0 → s₁.heap = h0 → s.Since s.vm h0.size → CHr Z EL s.vm h0 s.vm h0 → own_G p e below s₁ (ff m) (own_EndH Z EL s below R Q)) : own_MH EL l y bs ml rt ws R as' Z h0 Q := by
  refine MetFree.of_bodySF hpn hisR ?_
  intro p e s m args below meth c s₁ Bd hml0 hP hK
  obtain ⟨rfl, hZ, hh, hCH⟩ := hP
  obtain ⟨s2, g1, o, g2⟩ := body p e s m below meth c s₁ Bd Bd.exec Bd.bytes hml0 hZ hh (findClass_of_methodNamed Bd.named) (name_of_methodNamed Bd.named Bd.method).1 (Stand.of_body Bd) (by rw [← hh, Bd.state]; rfl) ((State.WarmedH.refl s).since _) (CHr.refl hCH)
  exact ⟨s2, o, castTop (hff m) g1, g2⟩
theorem own_pop2 {tb : Tables} [Ours tb] {e : Env} {below : List Frame} {T target : State} {m : MethodId} {c : Code} {g : JFrame} (h : At T m c below) (hx : tb.exec = Jvm.exec) (hg : g.method = m) {x : Value} {rest : List Value} (hd : decode c.code g.pc = .ok (.pop2, 1)) (hs : g.stack = x :: rest) (hc : x.category = 2)
    (hr : Steps tb e below (T.setTop { g with pc := g.pc + 1, stack := rest }) target) : Steps tb e below (T.setTop g) target := by
  subst hg
  jvm_step h [h.top, hx, hd, hs, hc]
  exact hr
section Own
variable {p : Program} {l : Launch} {e : Env} {R : Room} {s : State} {m : MethodId} {args : Array Value} {below : List Frame} {meth : Method} {c : Code} {T : State} {locs : List Loc} {cells slots : Nat} {Z : State} {h h' : Heap} {a : Addr} {k : ClassId} {ty : FieldType} {z j : Int32} {vs : List Value} {d v : Value} {g : JFrame} {rest : List Value}
theorem own_joinT {α : Type} {gj : α → JFrame} {P : α → Prop} {F : State → Prop} (X : Stand p l e R s m args below meth c T locs cells slots) (eT : T.heap = h)
    (k : ∀ T' q, P q → Stand p l e R s m args below meth c T' locs cells slots → T'.heap = h → own_G p e below T' (gj q) F) (r : (∀ T' q, P q → Stand p l e R s m args below meth c T' locs cells slots → T'.heap = h → own_G p e below T' (gj q) F) → own_G p e below T g F) : own_G p e below T g F := r k
theorem own_loop {α : Type} {gj : α → JFrame} {P : Nat → α → Prop} {F : State → Prop} (X : Stand p l e R s m args below meth c T locs cells slots) (eT : T.heap = h)
    (k : ∀ n, (∀ i, i < n → ∀ T' q, P i q → Stand p l e R s m args below meth c T' locs cells slots → T'.heap = h → own_G p e below T' (gj q) F) → ∀ T' q, P n q → Stand p l e R s m args below meth c T' locs cells slots → T'.heap = h → own_G p e below T' (gj q) F)
    (r : (∀ n T' q, P n q → Stand p l e R s m args below meth c T' locs cells slots → T'.heap = h → own_G p e below T' (gj q) F) → own_G p e below T g F) : own_G p e below T g F :=
  r fun n => Nat.strongRecOn n fun n ih => k n ih
theorem own_joinH {α : Type} {gj : α → JFrame} {P : List Loc → Heap → α → Prop} {F : State → Prop} {cells' slots' : Nat} (X : Stand p l e R s m args below meth c T locs cells slots)
    (k : ∀ T' L h' q, P L h' q → Stand p l e R s m args below meth c T' L cells' slots' → T'.heap = h' → own_G p e below T' (gj q) F) (r : (∀ T' L h' q, P L h' q → Stand p l e R s m args below meth c T' L cells' slots' → T'.heap = h' → own_G p e below T' (gj q) F) → own_G p e below T g F) : own_G p e below T g F := r k
theorem own_joinHV {α : Type} {gj : α → JFrame} {P : Vm → Nat → List Loc → Heap → α → Prop} {F : State → Prop} {cells' slots' : Nat} {vm0 : Vm} (X : Stand p l e R (s.setVm vm0) m args below meth c T locs cells slots)
    (k : ∀ vm1 k1 T' L h' q, P vm1 k1 L h' q → Stand p l e R (s.setVm vm1) m args below meth c T' L cells' slots' → T'.heap = h' → own_G p e below T' (gj q) F) (r : (∀ vm1 k1 T' L h' q, P vm1 k1 L h' q → Stand p l e R (s.setVm vm1) m args below meth c T' L cells' slots' → T'.heap = h' → own_G p e below T' (gj q) F) → own_G p e below T g F) : own_G p e below T g F := r k
theorem own_alen (X : Stand p l e R s m args below meth c T locs cells slots) (hx : p.tables.exec = Jvm.exec) (hZ : Z.Warmed39 s.vm) (eT : T.heap = h) (F : Arv Z h a k ty z vs d) (hg : g.method = m) (hs : g.stack = .ref a :: rest) (hd : decode c.code g.pc = .ok (.arraylength, 1)) :
    ∀ target, Steps p.tables e below (T.setTop { g with pc := g.pc + 1, stack := .int z :: rest }) target → Steps p.tables e below (T.setTop g) target := by
  obtain ⟨cl, A, -, S, M, -⟩ := F
  intro target hr
  refine X.arraylength hx (cell := cl) (by rw [eT]; exact A.1) (State.isArrayOf_alike hZ.alike A.2.1) hg hs hd target ?_
  rw [len_of S M]; exact hr
theorem own_ial (X : Stand p l e R s m args below meth c T locs cells slots) (hx : p.tables.exec = Jvm.exec) (hZ : Z.Warmed39 s.vm) (eT : T.heap = h) (F : Arv Z h a k .int z vs d) (hj : ¬ j < 0 ∧ j < z) (hv : vs.getD j.toNatClampNeg d = v) (hg : g.method = m) (hs : g.stack = .int j :: .ref a :: rest) (hd : decode c.code g.pc = .ok (.iaload, 1)) :
    ∀ target, Steps p.tables e below (T.setTop { g with pc := g.pc + 1, stack := v :: rest }) target → Steps p.tables e below (T.setTop g) target := by
  obtain ⟨cl, A, -, S, M, H, -⟩ := F
  intro target hr
  exact X.iaload hx (by rw [eT]; exact A.1) (State.isArrayOf_alike hZ.alike A.2.1) A.2.2 (inb_of S hj) (H.at (inb_of S hj) hv) hg hs hd target hr
theorem own_cal (X : Stand p l e R s m args below meth c T locs cells slots) (hx : p.tables.exec = Jvm.exec) (hZ : Z.Warmed39 s.vm) (eT : T.heap = h) (F : Arv Z h a k .char z vs d) (hj : ¬ j < 0 ∧ j < z) (hv : vs.getD j.toNatClampNeg d = v) (hg : g.method = m) (hs : g.stack = .int j :: .ref a :: rest) (hd : decode c.code g.pc = .ok (.caload, 1)) :
    ∀ target, Steps p.tables e below (T.setTop { g with pc := g.pc + 1, stack := v :: rest }) target → Steps p.tables e below (T.setTop g) target := by
  obtain ⟨cl, A, -, S, M, H, -⟩ := F
  intro target hr
  exact X.caload hx (by rw [eT]; exact A.1) (State.isArrayOf_alike hZ.alike A.2.1) A.2.2 (inb_of S hj) (H.at (inb_of S hj) hv) hg hs hd target hr
theorem own_bal (X : Stand p l e R s m args below meth c T locs cells slots) (hx : p.tables.exec = Jvm.exec) (hZ : Z.Warmed39 s.vm) (eT : T.heap = h) (F : Arv Z h a k .byte z vs d) (hj : ¬ j < 0 ∧ j < z) (hv : vs.getD j.toNatClampNeg d = v) (hg : g.method = m) (hs : g.stack = .int j :: .ref a :: rest) (hd : decode c.code g.pc = .ok (.baload, 1)) :
    ∀ target, Steps p.tables e below (T.setTop { g with pc := g.pc + 1, stack := v :: rest }) target → Steps p.tables e below (T.setTop g) target := by
  obtain ⟨cl, A, -, S, M, H, -⟩ := F
  intro target hr
  exact X.baloadBytes hx (by rw [eT]; exact A.1) (State.isArrayOf_alike hZ.alike A.2.1) A.2.2 (inb_of S hj) (H.at (inb_of S hj) hv) hg hs hd target hr
theorem own_lal (X : Stand p l e R s m args below meth c T locs cells slots) (hx : p.tables.exec = Jvm.exec) (hZ : Z.Warmed39 s.vm) (eT : T.heap = h) (F : Arv Z h a k .long z vs d) (hj : ¬ j < 0 ∧ j < z) (hv : vs.getD j.toNatClampNeg d = v) (hg : g.method = m) (hs : g.stack = .int j :: .ref a :: rest) (hd : decode c.code g.pc = .ok (.laload, 1)) :
    ∀ target, Steps p.tables e below (T.setTop { g with pc := g.pc + 1, stack := v :: rest }) target → Steps p.tables e below (T.setTop g) target := by
  obtain ⟨cl, A, -, S, M, H, -⟩ := F
  intro target hr
  exact X.laload hx (by rw [eT]; exact A.1) (State.isArrayOf_alike hZ.alike A.2.1) A.2.2 (inb_of S hj) (H.at (inb_of S hj) hv) hg hs hd target hr
theorem own_dal (X : Stand p l e R s m args below meth c T locs cells slots) (hx : p.tables.exec = Jvm.exec) (hZ : Z.Warmed39 s.vm) (eT : T.heap = h) (F : Arv Z h a k .double z vs d) (hj : ¬ j < 0 ∧ j < z) (hv : vs.getD j.toNatClampNeg d = v) (hg : g.method = m) (hs : g.stack = .int j :: .ref a :: rest) (hd : decode c.code g.pc = .ok (.daload, 1)) :
    ∀ target, Steps p.tables e below (T.setTop { g with pc := g.pc + 1, stack := v :: rest }) target → Steps p.tables e below (T.setTop g) target := by
  obtain ⟨cl, A, -, S, M, H, -⟩ := F
  intro target hr
  exact X.daload hx (by rw [eT]; exact A.1) (State.isArrayOf_alike hZ.alike A.2.1) A.2.2 (inb_of S hj) (H.at (inb_of S hj) hv) hg hs hd target hr
theorem own_aal (X : Stand p l e R s m args below meth c T locs cells slots) (hx : p.tables.exec = Jvm.exec) (hZ : Z.Warmed39 s.vm) (eT : T.heap = h) (F : Arv Z h a k ty z vs d) (hty : ty.isReference = true) (hj : ¬ j < 0 ∧ j < z) (hv : vs.getD j.toNatClampNeg d = v) (hg : g.method = m) (hs : g.stack = .int j :: .ref a :: rest) (hd : decode c.code g.pc = .ok (.aaload, 1)) :
    ∀ target, Steps p.tables e below (T.setTop { g with pc := g.pc + 1, stack := v :: rest }) target → Steps p.tables e below (T.setTop g) target := by
  obtain ⟨cl, A, -, S, M, H, -⟩ := F
  intro target hr
  exact X.aaload hx (by rw [eT]; exact A.1) (State.isArrayOf_alike hZ.alike A.2.1) hty A.2.2 (inb_of S hj) (H.at (inb_of S hj) hv) hg hs hd target hr
theorem own_ist (X : Stand p l e R s m args below meth c T locs cells slots) (hx : p.tables.exec = Jvm.exec) (hZ : Z.Warmed39 s.vm) (eT : T.heap = h) (F : Arv Z h a k .int z vs d) (hj : ¬ j < 0 ∧ j < z) {i : Nat} (hi : j.toNatClampNeg = i) (hl : i < vs.length) {x : Int32} (hg : g.method = m) (hs : g.stack = .int x :: .int j :: .ref a :: rest) (hd : decode c.code g.pc = .ok (.iastore, 1)) :
    ∃ T' h', Stand p l e R s m args below meth c T' (locs ++ [⟨a, j.toNatClampNeg⟩]) cells slots ∧ T'.heap = h' ∧ Wr h h' a j.toNatClampNeg (.int x) ∧ Arv Z h' a k .int z (vs.set i (.int x)) d ∧ ∀ target, Steps p.tables e below (T'.setTop { g with pc := g.pc + 1, stack := rest }) target → Steps p.tables e below (T.setTop g) target := by
  obtain ⟨cl, A, q, S, M, H, G⟩ := F
  obtain ⟨T', h', X', e', W, st⟩ := stI X hx hZ eT A (inb_of S hj) hg hs hd
  exact ⟨T', h', X', e', W, Arv.set A q S M H G rfl W i hi hl, st⟩
theorem own_lst (X : Stand p l e R s m args below meth c T locs cells slots) (hx : p.tables.exec = Jvm.exec) (hZ : Z.Warmed39 s.vm) (eT : T.heap = h) (F : Arv Z h a k .long z vs d) (hj : ¬ j < 0 ∧ j < z) {i : Nat} (hi : j.toNatClampNeg = i) (hl : i < vs.length) {x : Int64} (hg : g.method = m) (hs : g.stack = .long x :: .int j :: .ref a :: rest) (hd : decode c.code g.pc = .ok (.lastore, 1)) :
    ∃ T' h', Stand p l e R s m args below meth c T' (locs ++ [⟨a, j.toNatClampNeg⟩]) cells slots ∧ T'.heap = h' ∧ Wr h h' a j.toNatClampNeg (.long x) ∧ Arv Z h' a k .long z (vs.set i (.long x)) d ∧ ∀ target, Steps p.tables e below (T'.setTop { g with pc := g.pc + 1, stack := rest }) target → Steps p.tables e below (T.setTop g) target := by
  obtain ⟨cl, A, q, S, M, H, G⟩ := F
  obtain ⟨T', h', X', e', W, st⟩ := stJ X hx hZ eT A (inb_of S hj) hg hs hd
  exact ⟨T', h', X', e', W, Arv.set A q S M H G rfl W i hi hl, st⟩
theorem own_dst (X : Stand p l e R s m args below meth c T locs cells slots) (hx : p.tables.exec = Jvm.exec) (hZ : Z.Warmed39 s.vm) (eT : T.heap = h) (F : Arv Z h a k .double z vs d) (hj : ¬ j < 0 ∧ j < z) {i : Nat} (hi : j.toNatClampNeg = i) (hl : i < vs.length) {x : UInt64} (hg : g.method = m) (hs : g.stack = .double x :: .int j :: .ref a :: rest) (hd : decode c.code g.pc = .ok (.dastore, 1)) :
    ∃ T' h', Stand p l e R s m args below meth c T' (locs ++ [⟨a, j.toNatClampNeg⟩]) cells slots ∧ T'.heap = h' ∧ Wr h h' a j.toNatClampNeg (.double x) ∧ Arv Z h' a k .double z (vs.set i (.double x)) d ∧ ∀ target, Steps p.tables e below (T'.setTop { g with pc := g.pc + 1, stack := rest }) target → Steps p.tables e below (T.setTop g) target := by
  obtain ⟨cl, A, q, S, M, H, G⟩ := F
  obtain ⟨T', h', X', e', W, st⟩ := stD X hx hZ eT A (inb_of S hj) hg hs hd
  exact ⟨T', h', X', e', W, Arv.set A q S M H G rfl W i hi hl, st⟩
theorem own_cst (X : Stand p l e R s m args below meth c T locs cells slots) (hx : p.tables.exec = Jvm.exec) (hZ : Z.Warmed39 s.vm) (eT : T.heap = h) (F : Arv Z h a k .char z vs d) (hj : ¬ j < 0 ∧ j < z) {i : Nat} (hi : j.toNatClampNeg = i) (hl : i < vs.length) {x y : Int32} (hn : nar .char x = y) (hg : g.method = m) (hs : g.stack = .int x :: .int j :: .ref a :: rest) (hd : decode c.code g.pc = .ok (.castore, 1)) :
    ∃ T' h', Stand p l e R s m args below meth c T' (locs ++ [⟨a, j.toNatClampNeg⟩]) cells slots ∧ T'.heap = h' ∧ Wr h h' a j.toNatClampNeg (.int y) ∧ Arv Z h' a k .char z (vs.set i (.int y)) d ∧ ∀ target, Steps p.tables e below (T'.setTop { g with pc := g.pc + 1, stack := rest }) target → Steps p.tables e below (T.setTop g) target := by
  obtain ⟨cl, A, q, S, M, H, G⟩ := F
  obtain ⟨T', h', X', e', W, st⟩ := stC X hx hZ eT A (inb_of S hj) hg hs hd
  rw [hn] at W
  exact ⟨T', h', X', e', W, Arv.set A q S M H G (by rw [← hn]; exact fits_nar_char x) W i hi hl, st⟩
theorem own_bst (X : Stand p l e R s m args below meth c T locs cells slots) (hx : p.tables.exec = Jvm.exec) (hZ : Z.Warmed39 s.vm) (eT : T.heap = h) (F : Arv Z h a k .byte z vs d) (hj : ¬ j < 0 ∧ j < z) {i : Nat} (hi : j.toNatClampNeg = i) (hl : i < vs.length) {x y : Int32} (hn : nar .byte x = y) (hg : g.method = m) (hs : g.stack = .int x :: .int j :: .ref a :: rest) (hd : decode c.code g.pc = .ok (.bastore, 1)) :
    ∃ T' h', Stand p l e R s m args below meth c T' (locs ++ [⟨a, j.toNatClampNeg⟩]) cells slots ∧ T'.heap = h' ∧ Wr h h' a j.toNatClampNeg (.int y) ∧ Arv Z h' a k .byte z (vs.set i (.int y)) d ∧ ∀ target, Steps p.tables e below (T'.setTop { g with pc := g.pc + 1, stack := rest }) target → Steps p.tables e below (T.setTop g) target := by
  obtain ⟨cl, A, q, S, M, H, G⟩ := F
  obtain ⟨T', h', X', e', W, st⟩ := stB X hx hZ eT A (inb_of S hj) hg hs hd
  rw [hn] at W
  exact ⟨T', h', X', e', W, Arv.set A q S M H G (by rw [← hn]; exact fits_nar_byte x) W i hi hl, st⟩
theorem own_ast (X : Stand p l e R s m args below meth c T locs cells slots) (hx : p.tables.exec = Jvm.exec) (hZ : Z.Warmed39 s.vm) (eT : T.heap = h) (F : Arv Z h a k ty z vs d) (hty : ty.isReference = true) (hj : ¬ j < 0 ∧ j < z) {i : Nat} (hi : j.toNatClampNeg = i) (hl : i < vs.length) (hv : fits ty v = true) (Q : Sto Z h a v) (hg : g.method = m) (hs : g.stack = v :: .int j :: .ref a :: rest) (hd : decode c.code g.pc = .ok (.aastore, 1)) :
    ∃ T' h', Stand p l e R s m args below meth c T' (locs ++ [⟨a, j.toNatClampNeg⟩]) cells slots ∧ T'.heap = h' ∧ Wr h h' a j.toNatClampNeg v ∧ Arv Z h' a k ty z (vs.set i v) d ∧ ∀ target, Steps p.tables e below (T'.setTop { g with pc := g.pc + 1, stack := rest }) target → Steps p.tables e below (T.setTop g) target := by
  obtain ⟨cl, A, q, S, M, H, G⟩ := F
  obtain ⟨T', h', X', e', W, st⟩ := stR X hx hZ eT A (inb_of S hj) hty Q hg hs hd
  exact ⟨T', h', X', e', W, Arv.set A q S M H G hv W i hi hl, st⟩
theorem own_retJ (X : Stand p l e R s m args below meth c T locs cells slots) (hx : p.tables.exec = Jvm.exec) {pc : Nat} {Ls : Array Slot} {w : Int64} (hret : meth.sig.returnType = some .long) (hd : decode c.code pc = .ok (.lreturn, 1)) {fs : List Frame}
    (hl : ∀ (f : JFrame) (acts : List Action), f.method = m → f.locked = none → f.entered = [] → (doReturn e (T.setTop f) acts (some (.long w))).1 = T.setFrames fs) : Steps p.tables e below (T.setTop (mkF m pc Ls (.long w :: rest))) (T.setFrames fs) :=
  retOut X hx hret rfl (Or.inr (Or.inl ⟨rfl, rfl, w, rfl⟩)) hd hl
theorem own_retD (X : Stand p l e R s m args below meth c T locs cells slots) (hx : p.tables.exec = Jvm.exec) {pc : Nat} {Ls : Array Slot} {w : UInt64} (hret : meth.sig.returnType = some .double) (hd : decode c.code pc = .ok (.dreturn, 1)) {fs : List Frame}
    (hl : ∀ (f : JFrame) (acts : List Action), f.method = m → f.locked = none → f.entered = [] → (doReturn e (T.setTop f) acts (some (.double w))).1 = T.setFrames fs) : Steps p.tables e below (T.setTop (mkF m pc Ls (.double w :: rest))) (T.setFrames fs) :=
  retOut X hx hret rfl (Or.inr (Or.inr (Or.inl ⟨rfl, rfl, w, rfl⟩))) hd hl
theorem own_retI (X : Stand p l e R s m args below meth c T locs cells slots) (hx : p.tables.exec = Jvm.exec) {pc : Nat} {Ls : Array Slot} {w : Int32} (hret : meth.sig.returnType = some .int) (hd : decode c.code pc = .ok (.ireturn, 1)) {fs : List Frame}
    (hl : ∀ (f : JFrame) (acts : List Action), f.method = m → f.locked = none → f.entered = [] → (doReturn e (T.setTop f) acts (some (.int w))).1 = T.setFrames fs) : Steps p.tables e below (T.setTop (mkF m pc Ls (.int w :: rest))) (T.setFrames fs) :=
  retOut X hx hret rfl (Or.inl ⟨rfl, Or.inl rfl, w, rfl⟩) hd hl
theorem own_retA (X : Stand p l e R s m args below meth c T locs cells slots) (hx : p.tables.exec = Jvm.exec) {pc : Nat} {Ls : Array Slot} {w : Value} {t : FieldType} (hret : meth.sig.returnType = some t) (ht : t.isReference = true) (hn : narrow t w = w) (hw : w.isRef = true) (hd : decode c.code pc = .ok (.areturn, 1)) {fs : List Frame}
    (hl : ∀ (f : JFrame) (acts : List Action), f.method = m → f.locked = none → f.entered = [] → (doReturn e (T.setTop f) acts (some w)).1 = T.setFrames fs) : Steps p.tables e below (T.setTop (mkF m pc Ls (w :: rest))) (T.setFrames fs) :=
  retOut X hx hret hn (Or.inr (Or.inr (Or.inr (Or.inr ⟨rfl, ht, hw⟩)))) hd hl
end Own
theorem own_b53 (c : Int32) : B53 c.toInt64 := by
  have := c.toInt_lt; have := c.le_toInt
  constructor <;> rw [Int32.toInt_toInt64] <;> omega
theorem own_dc (c d : Int32) (o : CmpOp) : cmpValue (FP.dcmp (FP.i2d c) (FP.i2d d)) o = XT.cmpL c.toInt64 d.toInt64 := by
  rw [i2d_w, i2d_w, dcmpV_w (own_b53 c) (own_b53 d)]; rfl
theorem own_dinf (c : Int32) (o : CmpOp) : cmpValue (FP.dcmp (FP.i2d c) 9218868437227405312) o = -1 := dcmp_pinf (Jvm.Free.Fl.i2d_fin c) o
theorem own_c64 {c d : Int32} : c.toInt64 < d.toInt64 ↔ c < d := by simp only [Int32.lt_iff_toInt_lt, Int64.lt_iff_toInt_lt, Int32.toInt_toInt64]
theorem own_mn (a b c : Int32) : (if (if c < b then c else b) < a then (if c < b then c else b) else a) = (if c < (if b < a then b else a) then c else (if b < a then b else a)) := by
  rw [← Int32.toInt_inj]
  by_cases h1 : c < b <;> by_cases h2 : b < a <;> by_cases h3 : c < a <;> simp only [h1, h2, h3, if_true, if_false] <;> simp only [Int32.lt_iff_toInt_lt] at h1 h2 h3 <;> omega
theorem own_q1 {a b c : Int32} (p1 p2 p3 : Int32) (h : a = (if (if c < b then c else b) < a then (if c < b then c else b) else a)) : (if c < (if b < a then b else a) then p3 else (if b < a then p2 else p1)) = p1 := by
  rw [← Int32.toInt_inj] at h
  by_cases h1 : c < b <;> by_cases h2 : b < a <;> by_cases h3 : c < a <;> simp only [h1, h2, h3, if_true, if_false, not_true_eq_false] at h ⊢ <;> (exfalso; simp only [Int32.lt_iff_toInt_lt] at h1 h2 h3; omega)
theorem own_q2 {a b c : Int32} (p1 p2 p3 : Int32) (h' : ¬ a = (if (if c < b then c else b) < a then (if c < b then c else b) else a)) (h : b = (if (if c < b then c else b) < a then (if c < b then c else b) else a)) : (if c < (if b < a then b else a) then p3 else (if b < a then p2 else p1)) = p2 := by
  rw [← Int32.toInt_inj] at h h'
  by_cases h1 : c < b <;> by_cases h2 : b < a <;> by_cases h3 : c < a <;> simp only [h1, h2, h3, if_true, if_false, not_true_eq_false] at h h' ⊢ <;> (exfalso; simp only [Int32.lt_iff_toInt_lt] at h1 h2 h3; omega)
theorem own_q3 {a b c : Int32} (p1 p2 p3 : Int32) (h' : ¬ a = (if (if c < b then c else b) < a then (if c < b then c else b) else a)) (h : ¬ b = (if (if c < b then c else b) < a then (if c < b then c else b) else a)) : (if c < (if b < a then b else a) then p3 else (if b < a then p2 else p1)) = p3 := by
  rw [← Int32.toInt_inj] at h h'
  by_cases h1 : c < b <;> by_cases h2 : b < a <;> by_cases h3 : c < a <;> simp only [h1, h2, h3, if_true, if_false, not_true_eq_false] at h h' ⊢ <;> (exfalso; simp only [Int32.lt_iff_toInt_lt] at h1 h2 h3; omega)
theorem d2_0 : decode prog_28_method_2_code 0 = .ok (.aload_n 0, 1) := by decide +kernel
theorem d2_1 : decode prog_28_method_2_code 1 = .ok (.invokespecial 7, 3) := by decide +kernel
theorem d2_4 : decode prog_28_method_2_code 4 = .ok (.aload_n 0, 1) := by decide +kernel
theorem d2_5 : decode prog_28_method_2_code 5 = .ok (.ldc2_w 14, 3) := by decide +kernel
theorem d2_8 : decode prog_28_method_2_code 8 = .ok (.putfield 16, 3) := by decide +kernel
theorem d2_11 : decode prog_28_method_2_code 11 = .ok (.aload_n 0, 1) := by decide +kernel
theorem d2_12 : decode prog_28_method_2_code 12 = .ok (.aload_n 1, 1) := by decide +kernel
theorem d2_13 : decode prog_28_method_2_code 13 = .ok (.putfield 20, 3) := by decide +kernel
theorem d2_16 : decode prog_28_method_2_code 16 = .ok (.aload_n 0, 1) := by decide +kernel
theorem d2_17 : decode prog_28_method_2_code 17 = .ok (.dload_n 2, 1) := by decide +kernel
theorem d2_18 : decode prog_28_method_2_code 18 = .ok (.putfield 24, 3) := by decide +kernel
theorem d2_21 : decode prog_28_method_2_code 21 = .ok (.return_, 1) := by decide +kernel
set_option maxHeartbeats 4000000 in
theorem own_ef1 (m : MethodId) (x0 : Addr) (x2 : UInt64) : entryFrame m #[(.ref x0), .null, (.double x2)] 4 = mkF m 0 #[.val (.ref x0), .val .null, .val (.double x2), .second] [] := by first | (simp [entryFrame, mkF, argsToLocals, Value.category]; done) | rfl
def own_r1Q (Z : State) (a : Addr) (u : UInt64) (h0 : Heap) (n0 : Nat) (v : Option Value) (h : Heap) (L : List Loc) : Prop := v = none ∧ Fr n0 L ∧ Keep h0 h [a] ∧ (Exa Z h a "com/example/tourwerk/tourwerk/solve/Cheapest") ∧ (Fld Z h a "com/example/tourwerk/tourwerk/solve/Cheapest" "_cost" "D" (.double (9218868437227405312 : UInt64))) ∧ (Fld Z h a "com/example/tourwerk/tourwerk/solve/Cheapest" "_random" "Ljava/util/Random;" .null) ∧ (Fld Z h a "com/example/tourwerk/tourwerk/solve/Cheapest" "_blink" "D" (.double u)) ∧ (Fld Z h a "com/example/tourwerk/tourwerk/solve/Cheapest" "_on" "Lcom/example/tourwerk/tourwerk/solve/Route;" .null) ∧ (Fld Z h a "com/example/tourwerk/tourwerk/solve/Cheapest" "_route" "Lcom/example/tourwerk/tourwerk/solve/Route;" .null) ∧ (Fld Z h a "com/example/tourwerk/tourwerk/solve/Cheapest" "_position" "I" (.int (0 : Int32))) ∧ (Fld Z h a "com/example/tourwerk/tourwerk/solve/Cheapest" "_secondPosition" "I" (.int (0 : Int32)))
theorem own_pn1 : plainName "com/example/tourwerk/tourwerk/solve/Cheapest" = true := by first | (simp [plainName, overriddenIn]; done) | decide +kernel
abbrev own_r1R : Room := { frames := 1, cells := 0, slots := 0, locals := 12 }
set_option maxRecDepth 65536 in
set_option maxHeartbeats 40000000 in
theorem own_r1 (l : Launch) (Z : State) (a0 : Array Value) (hw : ∀ d ∈ tables_1, d.before a0 Z = true) (ws : List Jvm.Cond) (a : Addr) (u : UInt64) (h0 : Heap) (n0 : Nat) (Z0 : n0 ≤ h0.size) (pr1 : Exa Z h0 a "com/example/tourwerk/tourwerk/solve/Cheapest") (pr2 : n0 ≤ a) (pr3 : Fld Z h0 a "com/example/tourwerk/tourwerk/solve/Cheapest" "_cost" "D" (.double (0 : UInt64))) (pr4 : Fld Z h0 a "com/example/tourwerk/tourwerk/solve/Cheapest" "_random" "Ljava/util/Random;" .null) (pr5 : Fld Z h0 a "com/example/tourwerk/tourwerk/solve/Cheapest" "_blink" "D" (.double (0 : UInt64))) (pr6 : Fld Z h0 a "com/example/tourwerk/tourwerk/solve/Cheapest" "_on" "Lcom/example/tourwerk/tourwerk/solve/Route;" .null) (pr7 : Fld Z h0 a "com/example/tourwerk/tourwerk/solve/Cheapest" "_route" "Lcom/example/tourwerk/tourwerk/solve/Route;" .null) (pr8 : Fld Z h0 a "com/example/tourwerk/tourwerk/solve/Cheapest" "_position" "I" (.int (0 : Int32))) (pr9 : Fld Z h0 a "com/example/tourwerk/tourwerk/solve/Cheapest" "_secondPosition" "I" (.int (0 : Int32))) :
    own_M l (⟨"com/example/tourwerk/tourwerk/solve/Cheapest", "<init>", "(Ljava/util/Random;D)V"⟩ : MethodName) prog_28_method_2_code 4 none ws own_r1R #[(.ref a), .null, (.double u)] Z h0 (own_r1Q Z a u h0 n0) := by
  refine own_go (plainFor_of_name own_pn1) (fun m => own_ef1 m a u ) ?_
  intro p e s m below meth c s₁ Bd hx hby hml hZ hh hown hnm X0 e0
  have N0 := Fr.nil n0
  have K0 : Keep h0 h0 [a] := Keep.refl h0 _
  refine own_st (T' := s₁) (g' := (mkF m 1 #[.val (.ref a), .val .null, .val (.double u), .second] [(.ref a)])) (fun _ kt => XS.aloadN X0.here hx rfl (hb hby d2_0) rfl rfl kt) ?_
  obtain ⟨T1, X1, e1, st1⟩ := initO X0 hx hZ hown (own_k hw 9 rfl) (own_k hw 10 rfl) (own_k hw 11 rfl) e0 (g := (mkF m 1 #[.val (.ref a), .val .null, .val (.double u), .second] [(.ref a)])) rfl hml.symm rfl (hb hby d2_1) (by decide) (W := 0) (by show 2 * 0 + _ ≤ _; exact Nat.le_of_eq rfl) (by decide)
  refine own_st (T' := T1) (g' := (mkF m 4 #[.val (.ref a), .val .null, .val (.double u), .second] [])) st1 ?_
  refine own_st (T' := T1) (g' := (mkF m 5 #[.val (.ref a), .val .null, .val (.double u), .second] [(.ref a)])) (fun _ kt => XS.aloadN X1.here hx rfl (hb hby d2_4) rfl rfl kt) ?_
  refine own_st (T' := T1) (g' := (mkF m 8 #[.val (.ref a), .val .null, .val (.double u), .second] [(.double (9218868437227405312 : UInt64)), (.ref a)])) (Stand.ldc2DoubleC X1 hx hown (mvT hZ (own_k hw 12 rfl)) (g := (mkF m 5 #[.val (.ref a), .val .null, .val (.double u), .second] [(.ref a)])) rfl (hb hby d2_5)) ?_
  obtain ⟨T2, h2, X2, e2, W2, st2⟩ := putF X1 hx hZ hown (host := "") (Or.inl (own_k hw 13 rfl)) Via.refl e1 pr3 pr1 (Or.inl (own_k hw 14 rfl)) (own_k hw 1 rfl) (ty := .double) (by decide) rfl rfl (g := (mkF m 8 #[.val (.ref a), .val .null, .val (.double u), .second] [(.double (9218868437227405312 : UInt64)), (.ref a)])) rfl rfl (hb hby d2_8)
  have N2 := Fr.snoc X2 N0 pr2
  have Z3 : n0 ≤ h2.size := Nat.le_trans Z0 (Nat.le_of_eq (Wr.size W2).symm)
  have K3 : Keep h0 h2 [a] := (Keep.wr K0 W2 (Or.inl (List.mem_of_getElem? (i := 0) rfl)))
  have F4 : Fld Z h2 a "com/example/tourwerk/tourwerk/solve/Cheapest" "_cost" "D" (.double (9218868437227405312 : UInt64)) := Fld.same W2 pr3
  refine own_st (T' := T2) (g' := (mkF m 11 #[.val (.ref a), .val .null, .val (.double u), .second] [])) st2 ?_
  refine own_st (T' := T2) (g' := (mkF m 13 #[.val (.ref a), .val .null, .val (.double u), .second] [.null, (.ref a)])) (fun _ kt => XS.aloadN X2.here hx rfl (hb hby d2_11) rfl rfl (XS.aloadN X2.here hx rfl (hb hby d2_12) rfl rfl kt)) ?_
  have F5 : Fld Z h2 a "com/example/tourwerk/tourwerk/solve/Cheapest" "_random" "Ljava/util/Random;" .null := (Fld.other W2 pr4 (Or.inr (slot_ne (Or.inr (own_k hw 16 rfl)) (Or.inl (own_k hw 14 rfl)) (by decide) (t := (.object "java/util/Random")) (t' := .double) (by decide) (by decide))))
  have F6 : Exa Z h2 a "com/example/tourwerk/tourwerk/solve/Cheapest" := (Exa.wr W2 pr1)
  obtain ⟨T7, h7, X7, e7, W7, st7⟩ := putF X2 hx hZ hown (host := "") (Or.inl (own_k hw 15 rfl)) Via.refl e2 F5 F6 (Or.inr ⟨(own_k hw 16 rfl), rfl, hnm⟩) (own_k hw 1 rfl) (ty := (.object "java/util/Random")) (by decide) rfl rfl (g := (mkF m 13 #[.val (.ref a), .val .null, .val (.double u), .second] [.null, (.ref a)])) rfl rfl (hb hby d2_13)
  have N7 := Fr.snoc X7 N2 pr2
  have Z8 : n0 ≤ h7.size := Nat.le_trans Z3 (Nat.le_of_eq (Wr.size W7).symm)
  have K8 : Keep h0 h7 [a] := (Keep.wr K3 W7 (Or.inl (List.mem_of_getElem? (i := 0) rfl)))
  have F9 : Fld Z h7 a "com/example/tourwerk/tourwerk/solve/Cheapest" "_random" "Ljava/util/Random;" .null := Fld.same W7 F5
  refine own_st (T' := T7) (g' := (mkF m 16 #[.val (.ref a), .val .null, .val (.double u), .second] [])) st7 ?_
  refine own_st (T' := T7) (g' := (mkF m 18 #[.val (.ref a), .val .null, .val (.double u), .second] [(.double u), (.ref a)])) (fun _ kt => XS.aloadN X7.here hx rfl (hb hby d2_16) rfl rfl (XS.dloadN X7.here hx rfl (hb hby d2_17) rfl kt)) ?_
  have F10 : Fld Z h7 a "com/example/tourwerk/tourwerk/solve/Cheapest" "_blink" "D" (.double (0 : UInt64)) := (Fld.other W7 (Fld.other W2 pr5 (Or.inr (slot_ne (Or.inr (own_k hw 18 rfl)) (Or.inl (own_k hw 14 rfl)) (by decide) (t := .double) (t' := .double) (by decide) (by decide)))) (Or.inr (slot_ne (Or.inr (own_k hw 18 rfl)) (Or.inr (own_k hw 16 rfl)) (by decide) (t := .double) (t' := (.object "java/util/Random")) (by decide) (by decide))))
  have F11 : Exa Z h7 a "com/example/tourwerk/tourwerk/solve/Cheapest" := (Exa.wr W7 F6)
  obtain ⟨T12, h12, X12, e12, W12, st12⟩ := putF X7 hx hZ hown (host := "") (Or.inl (own_k hw 17 rfl)) Via.refl e7 F10 F11 (Or.inr ⟨(own_k hw 18 rfl), rfl, hnm⟩) (own_k hw 1 rfl) (ty := .double) (by decide) rfl rfl (g := (mkF m 18 #[.val (.ref a), .val .null, .val (.double u), .second] [(.double u), (.ref a)])) rfl rfl (hb hby d2_18)
  have N12 := Fr.snoc X12 N7 pr2
  have Z13 : n0 ≤ h12.size := Nat.le_trans Z8 (Nat.le_of_eq (Wr.size W12).symm)
  have K13 : Keep h0 h12 [a] := (Keep.wr K8 W12 (Or.inl (List.mem_of_getElem? (i := 0) rfl)))
  have F14 : Fld Z h12 a "com/example/tourwerk/tourwerk/solve/Cheapest" "_blink" "D" (.double u) := Fld.same W12 F10
  refine own_st (T' := T12) (g' := (mkF m 21 #[.val (.ref a), .val .null, .val (.double u), .second] [])) st12 ?_
  obtain ⟨fs, hr, hrun, hended, hW, hsame⟩ := X12.leave (v := none) (fun _ => rfl)
  refine own_end (X12.returnOut hx Bd.returns (hb hby d2_21) hr) ⟨_, hrun, hended, _, _, rfl, ?_, ⟨_, rfl⟩, hW, hsame.mono (by decide) (by decide)⟩
  have F15 : Exa Z h12 a "com/example/tourwerk/tourwerk/solve/Cheapest" := (Exa.wr W12 F11)
  have F16 : Fld Z h12 a "com/example/tourwerk/tourwerk/solve/Cheapest" "_cost" "D" (.double (9218868437227405312 : UInt64)) := (Fld.other W12 (Fld.other W7 F4 (Or.inr (slot_ne (Or.inl (own_k hw 14 rfl)) (Or.inr (own_k hw 16 rfl)) (by decide) (t := .double) (t' := (.object "java/util/Random")) (by decide) (by decide)))) (Or.inr (slot_ne (Or.inl (own_k hw 14 rfl)) (Or.inr (own_k hw 18 rfl)) (by decide) (t := .double) (t' := .double) (by decide) (by decide))))
  have F17 : Fld Z h12 a "com/example/tourwerk/tourwerk/solve/Cheapest" "_random" "Ljava/util/Random;" .null := (Fld.other W12 F9 (Or.inr (slot_ne (Or.inr (own_k hw 16 rfl)) (Or.inr (own_k hw 18 rfl)) (by decide) (t := (.object "java/util/Random")) (t' := .double) (by decide) (by decide))))
  have F18 : Fld Z h12 a "com/example/tourwerk/tourwerk/solve/Cheapest" "_on" "Lcom/example/tourwerk/tourwerk/solve/Route;" .null := (Fld.other W12 (Fld.other W7 (Fld.other W2 pr6 (Or.inr (slot_ne (Or.inl (own_k hw 25 rfl)) (Or.inl (own_k hw 14 rfl)) (by decide) (t := (.object "com/example/tourwerk/tourwerk/solve/Route")) (t' := .double) (by decide) (by decide)))) (Or.inr (slot_ne (Or.inl (own_k hw 25 rfl)) (Or.inr (own_k hw 16 rfl)) (by decide) (t := (.object "com/example/tourwerk/tourwerk/solve/Route")) (t' := (.object "java/util/Random")) (by decide) (by decide)))) (Or.inr (slot_ne (Or.inl (own_k hw 25 rfl)) (Or.inr (own_k hw 18 rfl)) (by decide) (t := (.object "com/example/tourwerk/tourwerk/solve/Route")) (t' := .double) (by decide) (by decide))))
  have F19 : Fld Z h12 a "com/example/tourwerk/tourwerk/solve/Cheapest" "_route" "Lcom/example/tourwerk/tourwerk/solve/Route;" .null := (Fld.other W12 (Fld.other W7 (Fld.other W2 pr7 (Or.inr (slot_ne (Or.inl (own_k hw 27 rfl)) (Or.inl (own_k hw 14 rfl)) (by decide) (t := (.object "com/example/tourwerk/tourwerk/solve/Route")) (t' := .double) (by decide) (by decide)))) (Or.inr (slot_ne (Or.inl (own_k hw 27 rfl)) (Or.inr (own_k hw 16 rfl)) (by decide) (t := (.object "com/example/tourwerk/tourwerk/solve/Route")) (t' := (.object "java/util/Random")) (by decide) (by decide)))) (Or.inr (slot_ne (Or.inl (own_k hw 27 rfl)) (Or.inr (own_k hw 18 rfl)) (by decide) (t := (.object "com/example/tourwerk/tourwerk/solve/Route")) (t' := .double) (by decide) (by decide))))
  have F20 : Fld Z h12 a "com/example/tourwerk/tourwerk/solve/Cheapest" "_position" "I" (.int (0 : Int32)) := (Fld.other W12 (Fld.other W7 (Fld.other W2 pr8 (Or.inr (slot_ne (Or.inl (own_k hw 29 rfl)) (Or.inl (own_k hw 14 rfl)) (by decide) (t := .int) (t' := .double) (by decide) (by decide)))) (Or.inr (slot_ne (Or.inl (own_k hw 29 rfl)) (Or.inr (own_k hw 16 rfl)) (by decide) (t := .int) (t' := (.object "java/util/Random")) (by decide) (by decide)))) (Or.inr (slot_ne (Or.inl (own_k hw 29 rfl)) (Or.inr (own_k hw 18 rfl)) (by decide) (t := .int) (t' := .double) (by decide) (by decide))))
  have F21 : Fld Z h12 a "com/example/tourwerk/tourwerk/solve/Cheapest" "_secondPosition" "I" (.int (0 : Int32)) := (Fld.other W12 (Fld.other W7 (Fld.other W2 pr9 (Or.inr (slot_ne (Or.inl (own_k hw 31 rfl)) (Or.inl (own_k hw 14 rfl)) (by decide) (t := .int) (t' := .double) (by decide) (by decide)))) (Or.inr (slot_ne (Or.inl (own_k hw 31 rfl)) (Or.inr (own_k hw 16 rfl)) (by decide) (t := .int) (t' := (.object "java/util/Random")) (by decide) (by decide)))) (Or.inr (slot_ne (Or.inl (own_k hw 31 rfl)) (Or.inr (own_k hw 18 rfl)) (by decide) (t := .int) (t' := .double) (by decide) (by decide))))
  show own_r1Q Z a u h0 n0 _ T12.heap _
  rw [e12]
  exact ⟨rfl, N12, K13, F15, F16, F17, F14, F18, F19, F20, F21⟩
theorem d1_0 : decode prog_28_method_1_code 0 = .ok (.aload_n 0, 1) := by decide +kernel
theorem d1_1 : decode prog_28_method_1_code 1 = .ok (.aconst_null, 1) := by decide +kernel
theorem d1_2 : decode prog_28_method_1_code 2 = .ok (.dconst 0, 1) := by decide +kernel
theorem d1_3 : decode prog_28_method_1_code 3 = .ok (.invokespecial 1, 3) := by decide +kernel
theorem own_pd1 : parseMethodDescriptor "(Ljava/util/Random;D)V" = some ⟨[(.object "java/util/Random"), .double], none⟩ := by decide +kernel
theorem d1_6 : decode prog_28_method_1_code 6 = .ok (.return_, 1) := by decide +kernel
set_option maxHeartbeats 4000000 in
theorem own_ef2 (m : MethodId) (x0 : Addr) : entryFrame m #[(.ref x0)] 1 = mkF m 0 #[.val (.ref x0)] [] := by first | (simp [entryFrame, mkF, argsToLocals, Value.category]; done) | rfl
def own_r2Q (Z : State) (a : Addr) (h0 : Heap) (n0 : Nat) (v : Option Value) (h : Heap) (L : List Loc) : Prop := v = none ∧ Fr n0 L ∧ Keep h0 h [a] ∧ (Exa Z h a "com/example/tourwerk/tourwerk/solve/Cheapest") ∧ (Fld Z h a "com/example/tourwerk/tourwerk/solve/Cheapest" "_cost" "D" (.double (9218868437227405312 : UInt64))) ∧ (Fld Z h a "com/example/tourwerk/tourwerk/solve/Cheapest" "_random" "Ljava/util/Random;" .null) ∧ (Fld Z h a "com/example/tourwerk/tourwerk/solve/Cheapest" "_blink" "D" (.double (0 : UInt64))) ∧ (Fld Z h a "com/example/tourwerk/tourwerk/solve/Cheapest" "_on" "Lcom/example/tourwerk/tourwerk/solve/Route;" .null) ∧ (Fld Z h a "com/example/tourwerk/tourwerk/solve/Cheapest" "_route" "Lcom/example/tourwerk/tourwerk/solve/Route;" .null) ∧ (Fld Z h a "com/example/tourwerk/tourwerk/solve/Cheapest" "_position" "I" (.int (0 : Int32))) ∧ (Fld Z h a "com/example/tourwerk/tourwerk/solve/Cheapest" "_secondPosition" "I" (.int (0 : Int32)))
abbrev own_r2R : Room := { frames := 2, cells := 0, slots := 0, locals := 27 }
set_option maxRecDepth 65536 in
set_option maxHeartbeats 40000000 in
theorem own_r2 (l : Launch) (Z : State) (a0 : Array Value) (hw : ∀ d ∈ tables_1, d.before a0 Z = true) (ws : List Jvm.Cond) (a : Addr) (h0 : Heap) (n0 : Nat) (Z0 : n0 ≤ h0.size) (pr1 : Exa Z h0 a "com/example/tourwerk/tourwerk/solve/Cheapest") (pr2 : n0 ≤ a) (pr3 : Fld Z h0 a "com/example/tourwerk/tourwerk/solve/Cheapest" "_cost" "D" (.double (0 : UInt64))) (pr4 : Fld Z h0 a "com/example/tourwerk/tourwerk/solve/Cheapest" "_random" "Ljava/util/Random;" .null) (pr5 : Fld Z h0 a "com/example/tourwerk/tourwerk/solve/Cheapest" "_blink" "D" (.double (0 : UInt64))) (pr6 : Fld Z h0 a "com/example/tourwerk/tourwerk/solve/Cheapest" "_on" "Lcom/example/tourwerk/tourwerk/solve/Route;" .null) (pr7 : Fld Z h0 a "com/example/tourwerk/tourwerk/solve/Cheapest" "_route" "Lcom/example/tourwerk/tourwerk/solve/Route;" .null) (pr8 : Fld Z h0 a "com/example/tourwerk/tourwerk/solve/Cheapest" "_position" "I" (.int (0 : Int32))) (pr9 : Fld Z h0 a "com/example/tourwerk/tourwerk/solve/Cheapest" "_secondPosition" "I" (.int (0 : Int32))) :
    own_M l (⟨"com/example/tourwerk/tourwerk/solve/Cheapest", "<init>", "()V"⟩ : MethodName) prog_28_method_1_code 1 none ws own_r2R #[(.ref a)] Z h0 (own_r2Q Z a h0 n0) := by
  refine own_go (plainFor_of_name own_pn1) (fun m => own_ef2 m a ) ?_
  intro p e s m below meth c s₁ Bd hx hby hml hZ hh hown hnm X0 e0
  have N0 := Fr.nil n0
  have K0 : Keep h0 h0 [a] := Keep.refl h0 _
  refine own_st (T' := s₁) (g' := (mkF m 3 #[.val (.ref a)] [(.double (0 : UInt64)), .null, (.ref a)])) (fun _ kt => XS.aloadN X0.here hx rfl (hb hby d1_0) rfl rfl (XS.aconstNull X0.here hx rfl (hb hby d1_1) (XS.dconst0 X0.here hx rfl (hb hby d1_2) rfl kt))) ?_
  obtain ⟨_, _, ⟨T22, L22, k22, n22⟩, -, X22, ⟨Lc22, hQ22, l22, y22, z22⟩, st22⟩ := X0.specialBack hx (y := (⟨"com/example/tourwerk/tourwerk/solve/Cheapest", "<init>", "(Ljava/util/Random;D)V"⟩ : MethodName)) rfl hown (mvT hZ (own_k hw 6 rfl)) (mvT hZ (own_k hw 7 rfl)) (mvT hZ (own_k hw 8 rfl)) (by decide) (backOf (W := 0) (own_r1 l Z a0 hw [] a (0 : UInt64) h0 n0 Z0 pr1 pr2 pr3 pr4 pr5 pr6 pr7 pr8 pr9) hZ (own_k hw 8 rfl) (own_k hw 2 rfl) (by decide) (by decide)) (g := (mkF m 3 #[.val (.ref a)] [(.double (0 : UInt64)), .null, (.ref a)])) rfl hml.symm (Steps.refl _) (a := a) (argsL := [.null, (.double (0 : UInt64))]) (rest := []) (lenOf own_pd1 rfl) rfl (by show 2 * 0 + _ ≤ _; exact Nat.le_of_eq rfl) (hb hby d1_3) (fun _ _ => ⟨rfl, e0, (by decide : 0 + 0 ≤ 0), (by decide : 0 + 0 ≤ 0)⟩)
  dsimp only [Pt.U, Pt.locs, Pt.cells, Pt.slots] at X22 l22 y22 z22 st22 hQ22
  subst l22 y22 z22
  obtain ⟨rfl, N22, K22_, P23, P24, P25, P26, P27, P28, P29, P30⟩ := hQ22
  have N31 := Fr.app N0 N22
  have Z32 : n0 ≤ T22.heap.size := Nat.le_trans Z0 K22_.1
  have K32 : Keep h0 T22.heap [a] := (Keep.trans K0 K22_ (allS (Or.inl (List.mem_of_getElem? (i := 0) rfl)) all0))
  refine own_tr (T' := T22) (g' := (mkF m 6 #[.val (.ref a)] [])) st22 ?_
  obtain ⟨fs, hr, hrun, hended, hW, hsame⟩ := X22.leave (v := none) (fun _ => rfl)
  refine own_end (X22.returnOut hx Bd.returns (hb hby d1_6) hr) ⟨_, hrun, hended, _, _, rfl, ?_, ⟨_, rfl⟩, hW, hsame.mono (by decide) (by decide)⟩
  show own_r2Q Z a h0 n0 _ T22.heap _
  show own_r2Q Z a h0 n0 _ T22.heap _
  exact ⟨rfl, N31, K32, P23, P24, P25, P26, P27, P28, P29, P30⟩
theorem d5_0 : decode jdk_29_method_69_code 0 = .ok (.iload_n 0, 1) := by decide +kernel
theorem d5_1 : decode jdk_29_method_69_code 1 = .ok (.iload_n 1, 1) := by decide +kernel
theorem d5_2 : decode jdk_29_method_69_code 2 = .ok (.if_icmp .gt 7, 3) := by decide +kernel
theorem d5_9 : decode jdk_29_method_69_code 9 = .ok (.iload_n 1, 1) := by decide +kernel
theorem d5_10 : decode jdk_29_method_69_code 10 = .ok (.ireturn, 1) := by decide +kernel
theorem d5_5 : decode jdk_29_method_69_code 5 = .ok (.iload_n 0, 1) := by decide +kernel
theorem d5_6 : decode jdk_29_method_69_code 6 = .ok (.goto 4, 3) := by decide +kernel
set_option maxHeartbeats 4000000 in
theorem own_ef3 (m : MethodId) (x0 : Int32) (x1 : Int32) : entryFrame m #[(.int x0), (.int x1)] 2 = mkF m 0 #[.val (.int x0), .val (.int x1)] [] := by first | (simp [entryFrame, mkF, argsToLocals, Value.category]; done) | rfl
def own_r3Q (Z : State) (u1 : Int32) (u2 : Int32) (h0 : Heap) (n0 : Nat) (v : Option Value) (h : Heap) (L : List Loc) : Prop := v = some (.int (if u2 < u1 then u2 else u1)) ∧ Fr n0 L ∧ h = h0
abbrev own_r3R : Room := { frames := 0, cells := 0, slots := 0, locals := 0 }
set_option maxRecDepth 65536 in
set_option maxHeartbeats 40000000 in
theorem own_r3 (l : Launch) (Z : State) (a0 : Array Value) (hw : ∀ d ∈ tables_1, d.before a0 Z = true) (ws : List Jvm.Cond) (u1 : Int32) (u2 : Int32) (h0 : Heap) (n0 : Nat) (Z0 : n0 ≤ h0.size)  :
    own_M l (⟨"java/lang/Math", "min", "(II)I"⟩ : MethodName) jdk_29_method_69_code 2 (some .int) ws own_r3R #[(.int u1), (.int u2)] Z h0 (own_r3Q Z u1 u2 h0 n0) := by
  refine own_go (Jvm.Free.JP.mathPlain rfl (by decide)) (fun m => own_ef3 m u1 u2 ) ?_
  intro p e s m below meth c s₁ Bd hx hby hml hZ hh hown hnm X0 e0
  have N0 := Fr.nil n0
  refine own_st (T' := s₁) (g' := (mkF m 2 #[.val (.int u1), .val (.int u2)] [(.int u2), (.int u1)])) (fun _ kt => XS.iloadN X0.here hx rfl (hb hby d5_0) rfl (XS.iloadN X0.here hx rfl (hb hby d5_1) rfl kt)) ?_
  by_cases hc33 : u2 < u1
  · -- pc 2: u2 < u1
    refine own_st (T' := s₁) (g' := (mkF m 10 #[.val (.int u1), .val (.int u2)] [(.int u2)])) (fun _ kt => XS.icmpYes X0.here hx rfl (pc0 := 2) (pc' := 9) rfl (hb hby d5_2) rfl (XT.ii_gt_t hc33) (by decide) (by decide) (XS.iloadN X0.here hx rfl (hb hby d5_9) rfl kt)) ?_
    obtain ⟨fs, hr, hrun, hended, hW, hsame⟩ := X0.leave (v := some (.int u2)) (fun h => by rw [Bd.returns] at h; cases h)
    refine own_end (own_retI X0 hx Bd.returns (hb hby d5_10) hr) ⟨_, hrun, hended, _, _, rfl, ?_, ⟨_, rfl⟩, hW, hsame.mono (by decide) (by decide)⟩
    show own_r3Q Z u1 u2 h0 n0 _ s₁.heap _
    rw [e0]
    exact ⟨(by rw [if_pos hc33]), N0, rfl⟩
  · -- pc 2: not u2 < u1
    refine own_st (T' := s₁) (g' := (mkF m 10 #[.val (.int u1), .val (.int u2)] [(.int u1)])) (fun _ kt => XS.icmpNo X0.here hx rfl (hb hby d5_2) rfl (XT.ii_gt_f hc33) (XS.iloadN X0.here hx rfl (hb hby d5_5) rfl (XS.goto X0.here hx rfl (pc0 := 6) (pc' := 10) rfl (hb hby d5_6) (by decide) (by decide) kt))) ?_
    obtain ⟨fs, hr, hrun, hended, hW, hsame⟩ := X0.leave (v := some (.int u1)) (fun h => by rw [Bd.returns] at h; cases h)
    refine own_end (own_retI X0 hx Bd.returns (hb hby d5_10) hr) ⟨_, hrun, hended, _, _, rfl, ?_, ⟨_, rfl⟩, hW, hsame.mono (by decide) (by decide)⟩
    show own_r3Q Z u1 u2 h0 n0 _ s₁.heap _
    rw [e0]
    exact ⟨(by rw [if_neg hc33]), N0, rfl⟩
theorem d6_0 : decode prog_28_method_7_code 0 = .ok (.aload_n 0, 1) := by decide +kernel
theorem d6_1 : decode prog_28_method_7_code 1 = .ok (.getfield 52, 3) := by decide +kernel
theorem d6_4 : decode prog_28_method_7_code 4 = .ok (.ireturn, 1) := by decide +kernel
def own_posQ (Z : State) (a : Addr) (u : Int32) (h0 : Heap) (n0 : Nat) (v : Option Value) (h : Heap) (L : List Loc) : Prop := v = some (.int u) ∧ Fr n0 L ∧ h = h0
abbrev own_posR : Room := { frames := 0, cells := 0, slots := 0, locals := 0 }
set_option maxRecDepth 65536 in
set_option maxHeartbeats 40000000 in
theorem own_pos (l : Launch) (Z : State) (a0 : Array Value) (hw : ∀ d ∈ tables_1, d.before a0 Z = true) (ws : List Jvm.Cond) (a : Addr) (u : Int32) (h0 : Heap) (n0 : Nat) (Z0 : n0 ≤ h0.size) (pr1 : Fld Z h0 a "com/example/tourwerk/tourwerk/solve/Cheapest" "_position" "I" (.int u)) :
    own_M l (⟨"com/example/tourwerk/tourwerk/solve/Cheapest", "position", "()I"⟩ : MethodName) prog_28_method_7_code 1 (some .int) ws own_posR #[(.ref a)] Z h0 (own_posQ Z a u h0 n0) := by
  refine own_go (plainFor_of_name own_pn1) (fun m => own_ef2 m a ) ?_
  intro p e s m below meth c s₁ Bd hx hby hml hZ hh hown hnm X0 e0
  have N0 := Fr.nil n0
  refine own_st (T' := s₁) (g' := (mkF m 1 #[.val (.ref a)] [(.ref a)])) (fun _ kt => XS.aloadN X0.here hx rfl (hb hby d6_0) rfl rfl kt) ?_
  obtain ⟨T34, X34, e34, st34⟩ := getF X0 hx hZ hown (host := "") (Or.inl (own_k hw 28 rfl)) Via.refl e0 pr1 (g := (mkF m 1 #[.val (.ref a)] [(.ref a)])) rfl rfl (hb hby d6_1)
  refine own_st (T' := T34) (g' := (mkF m 4 #[.val (.ref a)] [(.int u)])) st34 ?_
  obtain ⟨fs, hr, hrun, hended, hW, hsame⟩ := X34.leave (v := some (.int u)) (fun h => by rw [Bd.returns] at h; cases h)
  refine own_end (own_retI X34 hx Bd.returns (hb hby d6_4) hr) ⟨_, hrun, hended, _, _, rfl, ?_, ⟨_, rfl⟩, hW, hsame.mono (by decide) (by decide)⟩
  show own_posQ Z a u h0 n0 _ T34.heap _
  rw [e34]
  exact ⟨rfl, N0, rfl⟩
theorem d7_0 : decode prog_28_method_8_code 0 = .ok (.aload_n 0, 1) := by decide +kernel
theorem d7_1 : decode prog_28_method_8_code 1 = .ok (.getfield 56, 3) := by decide +kernel
theorem d7_4 : decode prog_28_method_8_code 4 = .ok (.ireturn, 1) := by decide +kernel
def own_secQ (Z : State) (a : Addr) (u : Int32) (h0 : Heap) (n0 : Nat) (v : Option Value) (h : Heap) (L : List Loc) : Prop := v = some (.int u) ∧ Fr n0 L ∧ h = h0
abbrev own_secR : Room := { frames := 0, cells := 0, slots := 0, locals := 0 }
set_option maxRecDepth 65536 in
set_option maxHeartbeats 40000000 in
theorem own_sec (l : Launch) (Z : State) (a0 : Array Value) (hw : ∀ d ∈ tables_1, d.before a0 Z = true) (ws : List Jvm.Cond) (a : Addr) (u : Int32) (h0 : Heap) (n0 : Nat) (Z0 : n0 ≤ h0.size) (pr1 : Fld Z h0 a "com/example/tourwerk/tourwerk/solve/Cheapest" "_secondPosition" "I" (.int u)) :
    own_M l (⟨"com/example/tourwerk/tourwerk/solve/Cheapest", "secondPosition", "()I"⟩ : MethodName) prog_28_method_8_code 1 (some .int) ws own_secR #[(.ref a)] Z h0 (own_secQ Z a u h0 n0) := by
  refine own_go (plainFor_of_name own_pn1) (fun m => own_ef2 m a ) ?_
  intro p e s m below meth c s₁ Bd hx hby hml hZ hh hown hnm X0 e0
  have N0 := Fr.nil n0
  refine own_st (T' := s₁) (g' := (mkF m 1 #[.val (.ref a)] [(.ref a)])) (fun _ kt => XS.aloadN X0.here hx rfl (hb hby d7_0) rfl rfl kt) ?_
  obtain ⟨T35, X35, e35, st35⟩ := getF X0 hx hZ hown (host := "") (Or.inl (own_k hw 30 rfl)) Via.refl e0 pr1 (g := (mkF m 1 #[.val (.ref a)] [(.ref a)])) rfl rfl (hb hby d7_1)
  refine own_st (T' := T35) (g' := (mkF m 4 #[.val (.ref a)] [(.int u)])) st35 ?_
  obtain ⟨fs, hr, hrun, hended, hW, hsame⟩ := X35.leave (v := some (.int u)) (fun h => by rw [Bd.returns] at h; cases h)
  refine own_end (own_retI X35 hx Bd.returns (hb hby d7_4) hr) ⟨_, hrun, hended, _, _, rfl, ?_, ⟨_, rfl⟩, hW, hsame.mono (by decide) (by decide)⟩
  show own_secQ Z a u h0 n0 _ T35.heap _
  rw [e35]
  exact ⟨rfl, N0, rfl⟩
theorem d8_0 : decode prog_28_method_9_code 0 = .ok (.aload_n 0, 1) := by decide +kernel
theorem d8_1 : decode prog_28_method_9_code 1 = .ok (.getfield 16, 3) := by decide +kernel
theorem d8_4 : decode prog_28_method_9_code 4 = .ok (.dreturn, 1) := by decide +kernel
def own_costQ (Z : State) (a : Addr) (u : UInt64) (h0 : Heap) (n0 : Nat) (v : Option Value) (h : Heap) (L : List Loc) : Prop := v = some (.double u) ∧ Fr n0 L ∧ h = h0
abbrev own_costR : Room := { frames := 0, cells := 0, slots := 0, locals := 0 }
set_option maxRecDepth 65536 in
set_option maxHeartbeats 40000000 in
theorem own_cost (l : Launch) (Z : State) (a0 : Array Value) (hw : ∀ d ∈ tables_1, d.before a0 Z = true) (ws : List Jvm.Cond) (a : Addr) (u : UInt64) (h0 : Heap) (n0 : Nat) (Z0 : n0 ≤ h0.size) (pr1 : Fld Z h0 a "com/example/tourwerk/tourwerk/solve/Cheapest" "_cost" "D" (.double u)) :
    own_M l (⟨"com/example/tourwerk/tourwerk/solve/Cheapest", "cost", "()D"⟩ : MethodName) prog_28_method_9_code 1 (some .double) ws own_costR #[(.ref a)] Z h0 (own_costQ Z a u h0 n0) := by
  refine own_go (plainFor_of_name own_pn1) (fun m => own_ef2 m a ) ?_
  intro p e s m below meth c s₁ Bd hx hby hml hZ hh hown hnm X0 e0
  have N0 := Fr.nil n0
  refine own_st (T' := s₁) (g' := (mkF m 1 #[.val (.ref a)] [(.ref a)])) (fun _ kt => XS.aloadN X0.here hx rfl (hb hby d8_0) rfl rfl kt) ?_
  obtain ⟨T36, X36, e36, st36⟩ := getF X0 hx hZ hown (host := "") (Or.inl (own_k hw 13 rfl)) Via.refl e0 pr1 (g := (mkF m 1 #[.val (.ref a)] [(.ref a)])) rfl rfl (hb hby d8_1)
  refine own_st (T' := T36) (g' := (mkF m 4 #[.val (.ref a)] [(.double u)])) st36 ?_
  obtain ⟨fs, hr, hrun, hended, hW, hsame⟩ := X36.leave (v := some (.double u)) (fun h => by rw [Bd.returns] at h; cases h)
  refine own_end (own_retD X36 hx Bd.returns (hb hby d8_4) hr) ⟨_, hrun, hended, _, _, rfl, ?_, ⟨_, rfl⟩, hW, hsame.mono (by decide) (by decide)⟩
  show own_costQ Z a u h0 n0 _ T36.heap _
  rw [e36]
  exact ⟨rfl, N0, rfl⟩
theorem d4_0 : decode prog_28_method_5_code 0 = .ok (.dload_n 3, 1) := by decide +kernel
theorem d4_1 : decode prog_28_method_5_code 1 = .ok (.aload_n 0, 1) := by decide +kernel
theorem d4_2 : decode prog_28_method_5_code 2 = .ok (.getfield 16, 3) := by decide +kernel
theorem d4_5 : decode prog_28_method_5_code 5 = .ok (.dcmp .l, 1) := by decide +kernel
theorem d4_6 : decode prog_28_method_5_code 6 = .ok (.ifCond .ge 25, 3) := by decide +kernel
theorem d4_9 : decode prog_28_method_5_code 9 = .ok (.aload_n 0, 1) := by decide +kernel
theorem d4_10 : decode prog_28_method_5_code 10 = .ok (.getfield 20, 3) := by decide +kernel
theorem d4_13 : decode prog_28_method_5_code 13 = .ok (.ifnull 19, 3) := by decide +kernel
theorem d4_32 : decode prog_28_method_5_code 32 = .ok (.aload_n 0, 1) := by decide +kernel
theorem d4_33 : decode prog_28_method_5_code 33 = .ok (.aload_n 0, 1) := by decide +kernel
theorem d4_34 : decode prog_28_method_5_code 34 = .ok (.getfield 33, 3) := by decide +kernel
theorem d4_37 : decode prog_28_method_5_code 37 = .ok (.putfield 49, 3) := by decide +kernel
theorem d4_40 : decode prog_28_method_5_code 40 = .ok (.aload_n 0, 1) := by decide +kernel
theorem d4_41 : decode prog_28_method_5_code 41 = .ok (.iload_n 1, 1) := by decide +kernel
theorem d4_42 : decode prog_28_method_5_code 42 = .ok (.putfield 52, 3) := by decide +kernel
theorem d4_45 : decode prog_28_method_5_code 45 = .ok (.aload_n 0, 1) := by decide +kernel
theorem d4_46 : decode prog_28_method_5_code 46 = .ok (.iload_n 2, 1) := by decide +kernel
theorem d4_47 : decode prog_28_method_5_code 47 = .ok (.putfield 56, 3) := by decide +kernel
theorem d4_50 : decode prog_28_method_5_code 50 = .ok (.aload_n 0, 1) := by decide +kernel
theorem d4_51 : decode prog_28_method_5_code 51 = .ok (.dload_n 3, 1) := by decide +kernel
theorem d4_52 : decode prog_28_method_5_code 52 = .ok (.putfield 16, 3) := by decide +kernel
theorem d4_55 : decode prog_28_method_5_code 55 = .ok (.return_, 1) := by decide +kernel
set_option maxHeartbeats 4000000 in
theorem own_ef4 (m : MethodId) (x0 : Addr) (x1 : Int32) (x2 : Int32) (x3 : UInt64) : entryFrame m #[(.ref x0), (.int x1), (.int x2), (.double x3)] 5 = mkF m 0 #[.val (.ref x0), .val (.int x1), .val (.int x2), .val (.double x3), .second] [] := by first | (simp [entryFrame, mkF, argsToLocals, Value.category]; done) | rfl
def own_of1Q (Z : State) (a : Addr) (u1 : Int32) (u2 : Int32) (k : Int32) (h0 : Heap) (n0 : Nat) (v : Option Value) (h : Heap) (L : List Loc) : Prop := v = none ∧ Fr n0 L ∧ Keep h0 h [a] ∧ (Exa Z h a "com/example/tourwerk/tourwerk/solve/Cheapest") ∧ (Fld Z h a "com/example/tourwerk/tourwerk/solve/Cheapest" "_cost" "D" (.double (FP.i2d k))) ∧ (Fld Z h a "com/example/tourwerk/tourwerk/solve/Cheapest" "_random" "Ljava/util/Random;" .null) ∧ (Fld Z h a "com/example/tourwerk/tourwerk/solve/Cheapest" "_blink" "D" (.double (0 : UInt64))) ∧ (Fld Z h a "com/example/tourwerk/tourwerk/solve/Cheapest" "_on" "Lcom/example/tourwerk/tourwerk/solve/Route;" .null) ∧ (Fld Z h a "com/example/tourwerk/tourwerk/solve/Cheapest" "_route" "Lcom/example/tourwerk/tourwerk/solve/Route;" .null) ∧ (Fld Z h a "com/example/tourwerk/tourwerk/solve/Cheapest" "_position" "I" (.int u1)) ∧ (Fld Z h a "com/example/tourwerk/tourwerk/solve/Cheapest" "_secondPosition" "I" (.int u2))
abbrev own_of1R : Room := { frames := 0, cells := 0, slots := 0, locals := 0 }
set_option maxRecDepth 65536 in
set_option maxHeartbeats 40000000 in
theorem own_of1 (l : Launch) (Z : State) (a0 : Array Value) (hw : ∀ d ∈ tables_1, d.before a0 Z = true) (ws : List Jvm.Cond) (a : Addr) (u1 : Int32) (u2 : Int32) (k : Int32) (h0 : Heap) (n0 : Nat) (Z0 : n0 ≤ h0.size) (pr1 : Exa Z h0 a "com/example/tourwerk/tourwerk/solve/Cheapest") (pr2 : n0 ≤ a) (pr3 : Fld Z h0 a "com/example/tourwerk/tourwerk/solve/Cheapest" "_cost" "D" (.double (9218868437227405312 : UInt64))) (pr4 : Fld Z h0 a "com/example/tourwerk/tourwerk/solve/Cheapest" "_random" "Ljava/util/Random;" .null) (pr5 : Fld Z h0 a "com/example/tourwerk/tourwerk/solve/Cheapest" "_blink" "D" (.double (0 : UInt64))) (pr6 : Fld Z h0 a "com/example/tourwerk/tourwerk/solve/Cheapest" "_on" "Lcom/example/tourwerk/tourwerk/solve/Route;" .null) (pr7 : Fld Z h0 a "com/example/tourwerk/tourwerk/solve/Cheapest" "_route" "Lcom/example/tourwerk/tourwerk/solve/Route;" .null) (pr8 : Fld Z h0 a "com/example/tourwerk/tourwerk/solve/Cheapest" "_position" "I" (.int (0 : Int32))) (pr9 : Fld Z h0 a "com/example/tourwerk/tourwerk/solve/Cheapest" "_secondPosition" "I" (.int (0 : Int32))) :
    own_M l (⟨"com/example/tourwerk/tourwerk/solve/Cheapest", "offer", "(IID)V"⟩ : MethodName) prog_28_method_5_code 5 none ws own_of1R #[(.ref a), (.int u1), (.int u2), (.double (FP.i2d k))] Z h0 (own_of1Q Z a u1 u2 k h0 n0) := by
  refine own_go (plainFor_of_name own_pn1) (fun m => own_ef4 m a u1 u2 (FP.i2d k) ) ?_
  intro p e s m below meth c s₁ Bd hx hby hml hZ hh hown hnm X0 e0
  have N0 := Fr.nil n0
  have K0 : Keep h0 h0 [a] := Keep.refl h0 _
  refine own_st (T' := s₁) (g' := (mkF m 2 #[.val (.ref a), .val (.int u1), .val (.int u2), .val (.double (FP.i2d k)), .second] [(.ref a), (.double (FP.i2d k))])) (fun _ kt => XS.dloadN X0.here hx rfl (hb hby d4_0) rfl (XS.aloadN X0.here hx rfl (hb hby d4_1) rfl rfl kt)) ?_
  obtain ⟨T37, X37, e37, st37⟩ := getF X0 hx hZ hown (host := "") (Or.inl (own_k hw 13 rfl)) Via.refl e0 pr3 (g := (mkF m 2 #[.val (.ref a), .val (.int u1), .val (.int u2), .val (.double (FP.i2d k)), .second] [(.ref a), (.double (FP.i2d k))])) rfl rfl (hb hby d4_2)
  refine own_st (T' := T37) (g' := (mkF m 5 #[.val (.ref a), .val (.int u1), .val (.int u2), .val (.double (FP.i2d k)), .second] [(.double (9218868437227405312 : UInt64)), (.double (FP.i2d k))])) st37 ?_
  refine own_st (T' := T37) (g' := (mkF m 10 #[.val (.ref a), .val (.int u1), .val (.int u2), .val (.double (FP.i2d k)), .second] [(.ref a)])) (fun _ kt => XS.dcmpS X37.here hx rfl (hb hby d4_5) rfl (own_dinf _ _) (XS.ifNo X37.here hx rfl (hb hby d4_6) rfl (XT.i0_ge_f (by decide)) (XS.aloadN X37.here hx rfl (hb hby d4_9) rfl rfl kt))) ?_
  obtain ⟨T38, X38, e38, st38⟩ := getF X37 hx hZ hown (host := "") (Or.inl (own_k hw 15 rfl)) Via.refl e37 pr4 (g := (mkF m 10 #[.val (.ref a), .val (.int u1), .val (.int u2), .val (.double (FP.i2d k)), .second] [(.ref a)])) rfl rfl (hb hby d4_10)
  refine own_st (T' := T38) (g' := (mkF m 13 #[.val (.ref a), .val (.int u1), .val (.int u2), .val (.double (FP.i2d k)), .second] [.null])) st38 ?_
  refine own_st (T' := T38) (g' := (mkF m 34 #[.val (.ref a), .val (.int u1), .val (.int u2), .val (.double (FP.i2d k)), .second] [(.ref a), (.ref a)])) (fun _ kt => XS.ifnullYes X38.here hx rfl (pc0 := 13) (pc' := 32) rfl (hb hby d4_13) rfl (by decide) (by decide) (XS.aloadN X38.here hx rfl (hb hby d4_32) rfl rfl (XS.aloadN X38.here hx rfl (hb hby d4_33) rfl rfl kt))) ?_
  obtain ⟨T39, X39, e39, st39⟩ := getF X38 hx hZ hown (host := "") (Or.inl (own_k hw 24 rfl)) Via.refl e38 pr6 (g := (mkF m 34 #[.val (.ref a), .val (.int u1), .val (.int u2), .val (.double (FP.i2d k)), .second] [(.ref a), (.ref a)])) rfl rfl (hb hby d4_34)
  refine own_st (T' := T39) (g' := (mkF m 37 #[.val (.ref a), .val (.int u1), .val (.int u2), .val (.double (FP.i2d k)), .second] [.null, (.ref a)])) st39 ?_
  obtain ⟨T40, h40, X40, e40, W40, st40⟩ := putF X39 hx hZ hown (host := "") (Or.inl (own_k hw 26 rfl)) Via.refl e39 pr7 pr1 (Or.inl (own_k hw 27 rfl)) (own_k hw 1 rfl) (ty := (.object "com/example/tourwerk/tourwerk/solve/Route")) (by decide) rfl rfl (g := (mkF m 37 #[.val (.ref a), .val (.int u1), .val (.int u2), .val (.double (FP.i2d k)), .second] [.null, (.ref a)])) rfl rfl (hb hby d4_37)
  have N40 := Fr.snoc X40 N0 pr2
  have Z41 : n0 ≤ h40.size := Nat.le_trans Z0 (Nat.le_of_eq (Wr.size W40).symm)
  have K41 : Keep h0 h40 [a] := (Keep.wr K0 W40 (Or.inl (List.mem_of_getElem? (i := 0) rfl)))
  have F42 : Fld Z h40 a "com/example/tourwerk/tourwerk/solve/Cheapest" "_route" "Lcom/example/tourwerk/tourwerk/solve/Route;" .null := Fld.same W40 pr7
  refine own_st (T' := T40) (g' := (mkF m 40 #[.val (.ref a), .val (.int u1), .val (.int u2), .val (.double (FP.i2d k)), .second] [])) st40 ?_
  refine own_st (T' := T40) (g' := (mkF m 42 #[.val (.ref a), .val (.int u1), .val (.int u2), .val (.double (FP.i2d k)), .second] [(.int u1), (.ref a)])) (fun _ kt => XS.aloadN X40.here hx rfl (hb hby d4_40) rfl rfl (XS.iloadN X40.here hx rfl (hb hby d4_41) rfl kt)) ?_
  have F43 : Fld Z h40 a "com/example/tourwerk/tourwerk/solve/Cheapest" "_position" "I" (.int (0 : Int32)) := (Fld.other W40 pr8 (Or.inr (slot_ne (Or.inl (own_k hw 29 rfl)) (Or.inl (own_k hw 27 rfl)) (by decide) (t := .int) (t' := (.object "com/example/tourwerk/tourwerk/solve/Route")) (by decide) (by decide))))
  have F44 : Exa Z h40 a "com/example/tourwerk/tourwerk/solve/Cheapest" := (Exa.wr W40 pr1)
  obtain ⟨T45, h45, X45, e45, W45, st45⟩ := putF X40 hx hZ hown (host := "") (Or.inl (own_k hw 28 rfl)) Via.refl e40 F43 F44 (Or.inl (own_k hw 29 rfl)) (own_k hw 1 rfl) (ty := .int) (by decide) rfl rfl (g := (mkF m 42 #[.val (.ref a), .val (.int u1), .val (.int u2), .val (.double (FP.i2d k)), .second] [(.int u1), (.ref a)])) rfl rfl (hb hby d4_42)
  have N45 := Fr.snoc X45 N40 pr2
  have Z46 : n0 ≤ h45.size := Nat.le_trans Z41 (Nat.le_of_eq (Wr.size W45).symm)
  have K46 : Keep h0 h45 [a] := (Keep.wr K41 W45 (Or.inl (List.mem_of_getElem? (i := 0) rfl)))
  have F47 : Fld Z h45 a "com/example/tourwerk/tourwerk/solve/Cheapest" "_position" "I" (.int u1) := Fld.same W45 F43
  refine own_st (T' := T45) (g' := (mkF m 45 #[.val (.ref a), .val (.int u1), .val (.int u2), .val (.double (FP.i2d k)), .second] [])) st45 ?_
  refine own_st (T' := T45) (g' := (mkF m 47 #[.val (.ref a), .val (.int u1), .val (.int u2), .val (.double (FP.i2d k)), .second] [(.int u2), (.ref a)])) (fun _ kt => XS.aloadN X45.here hx rfl (hb hby d4_45) rfl rfl (XS.iloadN X45.here hx rfl (hb hby d4_46) rfl kt)) ?_
  have F48 : Fld Z h45 a "com/example/tourwerk/tourwerk/solve/Cheapest" "_secondPosition" "I" (.int (0 : Int32)) := (Fld.other W45 (Fld.other W40 pr9 (Or.inr (slot_ne (Or.inl (own_k hw 31 rfl)) (Or.inl (own_k hw 27 rfl)) (by decide) (t := .int) (t' := (.object "com/example/tourwerk/tourwerk/solve/Route")) (by decide) (by decide)))) (Or.inr (slot_ne (Or.inl (own_k hw 31 rfl)) (Or.inl (own_k hw 29 rfl)) (by decide) (t := .int) (t' := .int) (by decide) (by decide))))
  have F49 : Exa Z h45 a "com/example/tourwerk/tourwerk/solve/Cheapest" := (Exa.wr W45 F44)
  obtain ⟨T50, h50, X50, e50, W50, st50⟩ := putF X45 hx hZ hown (host := "") (Or.inl (own_k hw 30 rfl)) Via.refl e45 F48 F49 (Or.inl (own_k hw 31 rfl)) (own_k hw 1 rfl) (ty := .int) (by decide) rfl rfl (g := (mkF m 47 #[.val (.ref a), .val (.int u1), .val (.int u2), .val (.double (FP.i2d k)), .second] [(.int u2), (.ref a)])) rfl rfl (hb hby d4_47)
  have N50 := Fr.snoc X50 N45 pr2
  have Z51 : n0 ≤ h50.size := Nat.le_trans Z46 (Nat.le_of_eq (Wr.size W50).symm)
  have K51 : Keep h0 h50 [a] := (Keep.wr K46 W50 (Or.inl (List.mem_of_getElem? (i := 0) rfl)))
  have F52 : Fld Z h50 a "com/example/tourwerk/tourwerk/solve/Cheapest" "_secondPosition" "I" (.int u2) := Fld.same W50 F48
  refine own_st (T' := T50) (g' := (mkF m 50 #[.val (.ref a), .val (.int u1), .val (.int u2), .val (.double (FP.i2d k)), .second] [])) st50 ?_
  refine own_st (T' := T50) (g' := (mkF m 52 #[.val (.ref a), .val (.int u1), .val (.int u2), .val (.double (FP.i2d k)), .second] [(.double (FP.i2d k)), (.ref a)])) (fun _ kt => XS.aloadN X50.here hx rfl (hb hby d4_50) rfl rfl (XS.dloadN X50.here hx rfl (hb hby d4_51) rfl kt)) ?_
  have F53 : Fld Z h50 a "com/example/tourwerk/tourwerk/solve/Cheapest" "_cost" "D" (.double (9218868437227405312 : UInt64)) := (Fld.other W50 (Fld.other W45 (Fld.other W40 pr3 (Or.inr (slot_ne (Or.inl (own_k hw 14 rfl)) (Or.inl (own_k hw 27 rfl)) (by decide) (t := .double) (t' := (.object "com/example/tourwerk/tourwerk/solve/Route")) (by decide) (by decide)))) (Or.inr (slot_ne (Or.inl (own_k hw 14 rfl)) (Or.inl (own_k hw 29 rfl)) (by decide) (t := .double) (t' := .int) (by decide) (by decide)))) (Or.inr (slot_ne (Or.inl (own_k hw 14 rfl)) (Or.inl (own_k hw 31 rfl)) (by decide) (t := .double) (t' := .int) (by decide) (by decide))))
  have F54 : Exa Z h50 a "com/example/tourwerk/tourwerk/solve/Cheapest" := (Exa.wr W50 F49)
  obtain ⟨T55, h55, X55, e55, W55, st55⟩ := putF X50 hx hZ hown (host := "") (Or.inl (own_k hw 13 rfl)) Via.refl e50 F53 F54 (Or.inl (own_k hw 14 rfl)) (own_k hw 1 rfl) (ty := .double) (by decide) rfl rfl (g := (mkF m 52 #[.val (.ref a), .val (.int u1), .val (.int u2), .val (.double (FP.i2d k)), .second] [(.double (FP.i2d k)), (.ref a)])) rfl rfl (hb hby d4_52)
  have N55 := Fr.snoc X55 N50 pr2
  have Z56 : n0 ≤ h55.size := Nat.le_trans Z51 (Nat.le_of_eq (Wr.size W55).symm)
  have K56 : Keep h0 h55 [a] := (Keep.wr K51 W55 (Or.inl (List.mem_of_getElem? (i := 0) rfl)))
  have F57 : Fld Z h55 a "com/example/tourwerk/tourwerk/solve/Cheapest" "_cost" "D" (.double (FP.i2d k)) := Fld.same W55 F53
  refine own_st (T' := T55) (g' := (mkF m 55 #[.val (.ref a), .val (.int u1), .val (.int u2), .val (.double (FP.i2d k)), .second] [])) st55 ?_
  obtain ⟨fs, hr, hrun, hended, hW, hsame⟩ := X55.leave (v := none) (fun _ => rfl)
  refine own_end (X55.returnOut hx Bd.returns (hb hby d4_55) hr) ⟨_, hrun, hended, _, _, rfl, ?_, ⟨_, rfl⟩, hW, hsame.mono (by decide) (by decide)⟩
  have F58 : Exa Z h55 a "com/example/tourwerk/tourwerk/solve/Cheapest" := (Exa.wr W55 F54)
  have F59 : Fld Z h55 a "com/example/tourwerk/tourwerk/solve/Cheapest" "_random" "Ljava/util/Random;" .null := (Fld.other W55 (Fld.other W50 (Fld.other W45 (Fld.other W40 pr4 (Or.inr (slot_ne (Or.inr (own_k hw 16 rfl)) (Or.inl (own_k hw 27 rfl)) (by decide) (t := (.object "java/util/Random")) (t' := (.object "com/example/tourwerk/tourwerk/solve/Route")) (by decide) (by decide)))) (Or.inr (slot_ne (Or.inr (own_k hw 16 rfl)) (Or.inl (own_k hw 29 rfl)) (by decide) (t := (.object "java/util/Random")) (t' := .int) (by decide) (by decide)))) (Or.inr (slot_ne (Or.inr (own_k hw 16 rfl)) (Or.inl (own_k hw 31 rfl)) (by decide) (t := (.object "java/util/Random")) (t' := .int) (by decide) (by decide)))) (Or.inr (slot_ne (Or.inr (own_k hw 16 rfl)) (Or.inl (own_k hw 14 rfl)) (by decide) (t := (.object "java/util/Random")) (t' := .double) (by decide) (by decide))))
  have F60 : Fld Z h55 a "com/example/tourwerk/tourwerk/solve/Cheapest" "_blink" "D" (.double (0 : UInt64)) := (Fld.other W55 (Fld.other W50 (Fld.other W45 (Fld.other W40 pr5 (Or.inr (slot_ne (Or.inr (own_k hw 18 rfl)) (Or.inl (own_k hw 27 rfl)) (by decide) (t := .double) (t' := (.object "com/example/tourwerk/tourwerk/solve/Route")) (by decide) (by decide)))) (Or.inr (slot_ne (Or.inr (own_k hw 18 rfl)) (Or.inl (own_k hw 29 rfl)) (by decide) (t := .double) (t' := .int) (by decide) (by decide)))) (Or.inr (slot_ne (Or.inr (own_k hw 18 rfl)) (Or.inl (own_k hw 31 rfl)) (by decide) (t := .double) (t' := .int) (by decide) (by decide)))) (Or.inr (slot_ne (Or.inr (own_k hw 18 rfl)) (Or.inl (own_k hw 14 rfl)) (by decide) (t := .double) (t' := .double) (by decide) (by decide))))
  have F61 : Fld Z h55 a "com/example/tourwerk/tourwerk/solve/Cheapest" "_on" "Lcom/example/tourwerk/tourwerk/solve/Route;" .null := (Fld.other W55 (Fld.other W50 (Fld.other W45 (Fld.other W40 pr6 (Or.inr (slot_ne (Or.inl (own_k hw 25 rfl)) (Or.inl (own_k hw 27 rfl)) (by decide) (t := (.object "com/example/tourwerk/tourwerk/solve/Route")) (t' := (.object "com/example/tourwerk/tourwerk/solve/Route")) (by decide) (by decide)))) (Or.inr (slot_ne (Or.inl (own_k hw 25 rfl)) (Or.inl (own_k hw 29 rfl)) (by decide) (t := (.object "com/example/tourwerk/tourwerk/solve/Route")) (t' := .int) (by decide) (by decide)))) (Or.inr (slot_ne (Or.inl (own_k hw 25 rfl)) (Or.inl (own_k hw 31 rfl)) (by decide) (t := (.object "com/example/tourwerk/tourwerk/solve/Route")) (t' := .int) (by decide) (by decide)))) (Or.inr (slot_ne (Or.inl (own_k hw 25 rfl)) (Or.inl (own_k hw 14 rfl)) (by decide) (t := (.object "com/example/tourwerk/tourwerk/solve/Route")) (t' := .double) (by decide) (by decide))))
  have F62 : Fld Z h55 a "com/example/tourwerk/tourwerk/solve/Cheapest" "_route" "Lcom/example/tourwerk/tourwerk/solve/Route;" .null := (Fld.other W55 (Fld.other W50 (Fld.other W45 F42 (Or.inr (slot_ne (Or.inl (own_k hw 27 rfl)) (Or.inl (own_k hw 29 rfl)) (by decide) (t := (.object "com/example/tourwerk/tourwerk/solve/Route")) (t' := .int) (by decide) (by decide)))) (Or.inr (slot_ne (Or.inl (own_k hw 27 rfl)) (Or.inl (own_k hw 31 rfl)) (by decide) (t := (.object "com/example/tourwerk/tourwerk/solve/Route")) (t' := .int) (by decide) (by decide)))) (Or.inr (slot_ne (Or.inl (own_k hw 27 rfl)) (Or.inl (own_k hw 14 rfl)) (by decide) (t := (.object "com/example/tourwerk/tourwerk/solve/Route")) (t' := .double) (by decide) (by decide))))
  have F63 : Fld Z h55 a "com/example/tourwerk/tourwerk/solve/Cheapest" "_position" "I" (.int u1) := (Fld.other W55 (Fld.other W50 F47 (Or.inr (slot_ne (Or.inl (own_k hw 29 rfl)) (Or.inl (own_k hw 31 rfl)) (by decide) (t := .int) (t' := .int) (by decide) (by decide)))) (Or.inr (slot_ne (Or.inl (own_k hw 29 rfl)) (Or.inl (own_k hw 14 rfl)) (by decide) (t := .int) (t' := .double) (by decide) (by decide))))
  have F64 : Fld Z h55 a "com/example/tourwerk/tourwerk/solve/Cheapest" "_secondPosition" "I" (.int u2) := (Fld.other W55 F52 (Or.inr (slot_ne (Or.inl (own_k hw 31 rfl)) (Or.inl (own_k hw 14 rfl)) (by decide) (t := .int) (t' := .double) (by decide) (by decide))))
  show own_of1Q Z a u1 u2 k h0 n0 _ T55.heap _
  rw [e55]
  exact ⟨rfl, N55, K56, F58, F57, F59, F60, F61, F62, F63, F64⟩
theorem d4_31 : decode prog_28_method_5_code 31 = .ok (.return_, 1) := by decide +kernel
def own_of2Q (Z : State) (a : Addr) (u1 : Int32) (u2 : Int32) (k : Int32) (k0 : Int32) (q1 : Int32) (q2 : Int32) (h0 : Heap) (n0 : Nat) (v : Option Value) (h : Heap) (L : List Loc) : Prop := v = none ∧ Fr n0 L ∧ Keep h0 h [a] ∧ (Exa Z h a "com/example/tourwerk/tourwerk/solve/Cheapest") ∧ (Fld Z h a "com/example/tourwerk/tourwerk/solve/Cheapest" "_cost" "D" (.double (FP.i2d (if k < k0 then k else k0)))) ∧ (Fld Z h a "com/example/tourwerk/tourwerk/solve/Cheapest" "_random" "Ljava/util/Random;" .null) ∧ (Fld Z h a "com/example/tourwerk/tourwerk/solve/Cheapest" "_blink" "D" (.double (0 : UInt64))) ∧ (Fld Z h a "com/example/tourwerk/tourwerk/solve/Cheapest" "_on" "Lcom/example/tourwerk/tourwerk/solve/Route;" .null) ∧ (Fld Z h a "com/example/tourwerk/tourwerk/solve/Cheapest" "_route" "Lcom/example/tourwerk/tourwerk/solve/Route;" .null) ∧ (Fld Z h a "com/example/tourwerk/tourwerk/solve/Cheapest" "_position" "I" (.int (if k < k0 then u1 else q1))) ∧ (Fld Z h a "com/example/tourwerk/tourwerk/solve/Cheapest" "_secondPosition" "I" (.int (if k < k0 then u2 else q2)))
abbrev own_of2R : Room := { frames := 0, cells := 0, slots := 0, locals := 0 }
set_option maxRecDepth 65536 in
set_option maxHeartbeats 40000000 in
theorem own_of2 (l : Launch) (Z : State) (a0 : Array Value) (hw : ∀ d ∈ tables_1, d.before a0 Z = true) (ws : List Jvm.Cond) (a : Addr) (u1 : Int32) (u2 : Int32) (k : Int32) (k0 : Int32) (q1 : Int32) (q2 : Int32) (h0 : Heap) (n0 : Nat) (Z0 : n0 ≤ h0.size) (pr1 : Exa Z h0 a "com/example/tourwerk/tourwerk/solve/Cheapest") (pr2 : n0 ≤ a) (pr3 : Fld Z h0 a "com/example/tourwerk/tourwerk/solve/Cheapest" "_cost" "D" (.double (FP.i2d k0))) (pr4 : Fld Z h0 a "com/example/tourwerk/tourwerk/solve/Cheapest" "_random" "Ljava/util/Random;" .null) (pr5 : Fld Z h0 a "com/example/tourwerk/tourwerk/solve/Cheapest" "_blink" "D" (.double (0 : UInt64))) (pr6 : Fld Z h0 a "com/example/tourwerk/tourwerk/solve/Cheapest" "_on" "Lcom/example/tourwerk/tourwerk/solve/Route;" .null) (pr7 : Fld Z h0 a "com/example/tourwerk/tourwerk/solve/Cheapest" "_route" "Lcom/example/tourwerk/tourwerk/solve/Route;" .null) (pr8 : Fld Z h0 a "com/example/tourwerk/tourwerk/solve/Cheapest" "_position" "I" (.int q1)) (pr9 : Fld Z h0 a "com/example/tourwerk/tourwerk/solve/Cheapest" "_secondPosition" "I" (.int q2)) :
    own_M l (⟨"com/example/tourwerk/tourwerk/solve/Cheapest", "offer", "(IID)V"⟩ : MethodName) prog_28_method_5_code 5 none ws own_of2R #[(.ref a), (.int u1), (.int u2), (.double (FP.i2d k))] Z h0 (own_of2Q Z a u1 u2 k k0 q1 q2 h0 n0) := by
  refine own_go (plainFor_of_name own_pn1) (fun m => own_ef4 m a u1 u2 (FP.i2d k) ) ?_
  intro p e s m below meth c s₁ Bd hx hby hml hZ hh hown hnm X0 e0
  have N0 := Fr.nil n0
  have K0 : Keep h0 h0 [a] := Keep.refl h0 _
  refine own_st (T' := s₁) (g' := (mkF m 2 #[.val (.ref a), .val (.int u1), .val (.int u2), .val (.double (FP.i2d k)), .second] [(.ref a), (.double (FP.i2d k))])) (fun _ kt => XS.dloadN X0.here hx rfl (hb hby d4_0) rfl (XS.aloadN X0.here hx rfl (hb hby d4_1) rfl rfl kt)) ?_
  obtain ⟨T65, X65, e65, st65⟩ := getF X0 hx hZ hown (host := "") (Or.inl (own_k hw 13 rfl)) Via.refl e0 pr3 (g := (mkF m 2 #[.val (.ref a), .val (.int u1), .val (.int u2), .val (.double (FP.i2d k)), .second] [(.ref a), (.double (FP.i2d k))])) rfl rfl (hb hby d4_2)
  refine own_st (T' := T65) (g' := (mkF m 5 #[.val (.ref a), .val (.int u1), .val (.int u2), .val (.double (FP.i2d k)), .second] [(.double (FP.i2d k0)), (.double (FP.i2d k))])) st65 ?_
  refine own_st (T' := T65) (g' := (mkF m 6 #[.val (.ref a), .val (.int u1), .val (.int u2), .val (.double (FP.i2d k)), .second] [(.int (XT.cmpL k.toInt64 k0.toInt64))])) (fun _ kt => XS.dcmpS X65.here hx rfl (hb hby d4_5) rfl (own_dc _ _ _) kt) ?_
  by_cases hc66 : k.toInt64 < k0.toInt64
  · -- pc 6: k.toInt64 < k0.toInt64
    refine own_st (T' := T65) (g' := (mkF m 10 #[.val (.ref a), .val (.int u1), .val (.int u2), .val (.double (FP.i2d k)), .second] [(.ref a)])) (fun _ kt => XS.ifNo X65.here hx rfl (hb hby d4_6) rfl (XT.ll_ge_f hc66) (XS.aloadN X65.here hx rfl (hb hby d4_9) rfl rfl kt)) ?_
    obtain ⟨T67, X67, e67, st67⟩ := getF X65 hx hZ hown (host := "") (Or.inl (own_k hw 15 rfl)) Via.refl e65 pr4 (g := (mkF m 10 #[.val (.ref a), .val (.int u1), .val (.int u2), .val (.double (FP.i2d k)), .second] [(.ref a)])) rfl rfl (hb hby d4_10)
    refine own_st (T' := T67) (g' := (mkF m 13 #[.val (.ref a), .val (.int u1), .val (.int u2), .val (.double (FP.i2d k)), .second] [.null])) st67 ?_
    refine own_st (T' := T67) (g' := (mkF m 34 #[.val (.ref a), .val (.int u1), .val (.int u2), .val (.double (FP.i2d k)), .second] [(.ref a), (.ref a)])) (fun _ kt => XS.ifnullYes X67.here hx rfl (pc0 := 13) (pc' := 32) rfl (hb hby d4_13) rfl (by decide) (by decide) (XS.aloadN X67.here hx rfl (hb hby d4_32) rfl rfl (XS.aloadN X67.here hx rfl (hb hby d4_33) rfl rfl kt))) ?_
    obtain ⟨T68, X68, e68, st68⟩ := getF X67 hx hZ hown (host := "") (Or.inl (own_k hw 24 rfl)) Via.refl e67 pr6 (g := (mkF m 34 #[.val (.ref a), .val (.int u1), .val (.int u2), .val (.double (FP.i2d k)), .second] [(.ref a), (.ref a)])) rfl rfl (hb hby d4_34)
    refine own_st (T' := T68) (g' := (mkF m 37 #[.val (.ref a), .val (.int u1), .val (.int u2), .val (.double (FP.i2d k)), .second] [.null, (.ref a)])) st68 ?_
    obtain ⟨T69, h69, X69, e69, W69, st69⟩ := putF X68 hx hZ hown (host := "") (Or.inl (own_k hw 26 rfl)) Via.refl e68 pr7 pr1 (Or.inl (own_k hw 27 rfl)) (own_k hw 1 rfl) (ty := (.object "com/example/tourwerk/tourwerk/solve/Route")) (by decide) rfl rfl (g := (mkF m 37 #[.val (.ref a), .val (.int u1), .val (.int u2), .val (.double (FP.i2d k)), .second] [.null, (.ref a)])) rfl rfl (hb hby d4_37)
    have N69 := Fr.snoc X69 N0 pr2
    have Z70 : n0 ≤ h69.size := Nat.le_trans Z0 (Nat.le_of_eq (Wr.size W69).symm)
    have K70 : Keep h0 h69 [a] := (Keep.wr K0 W69 (Or.inl (List.mem_of_getElem? (i := 0) rfl)))
    have F71 : Fld Z h69 a "com/example/tourwerk/tourwerk/solve/Cheapest" "_route" "Lcom/example/tourwerk/tourwerk/solve/Route;" .null := Fld.same W69 pr7
    refine own_st (T' := T69) (g' := (mkF m 40 #[.val (.ref a), .val (.int u1), .val (.int u2), .val (.double (FP.i2d k)), .second] [])) st69 ?_
    refine own_st (T' := T69) (g' := (mkF m 42 #[.val (.ref a), .val (.int u1), .val (.int u2), .val (.double (FP.i2d k)), .second] [(.int u1), (.ref a)])) (fun _ kt => XS.aloadN X69.here hx rfl (hb hby d4_40) rfl rfl (XS.iloadN X69.here hx rfl (hb hby d4_41) rfl kt)) ?_
    have F72 : Fld Z h69 a "com/example/tourwerk/tourwerk/solve/Cheapest" "_position" "I" (.int q1) := (Fld.other W69 pr8 (Or.inr (slot_ne (Or.inl (own_k hw 29 rfl)) (Or.inl (own_k hw 27 rfl)) (by decide) (t := .int) (t' := (.object "com/example/tourwerk/tourwerk/solve/Route")) (by decide) (by decide))))
    have F73 : Exa Z h69 a "com/example/tourwerk/tourwerk/solve/Cheapest" := (Exa.wr W69 pr1)
    obtain ⟨T74, h74, X74, e74, W74, st74⟩ := putF X69 hx hZ hown (host := "") (Or.inl (own_k hw 28 rfl)) Via.refl e69 F72 F73 (Or.inl (own_k hw 29 rfl)) (own_k hw 1 rfl) (ty := .int) (by decide) rfl rfl (g := (mkF m 42 #[.val (.ref a), .val (.int u1), .val (.int u2), .val (.double (FP.i2d k)), .second] [(.int u1), (.ref a)])) rfl rfl (hb hby d4_42)
    have N74 := Fr.snoc X74 N69 pr2
    have Z75 : n0 ≤ h74.size := Nat.le_trans Z70 (Nat.le_of_eq (Wr.size W74).symm)
    have K75 : Keep h0 h74 [a] := (Keep.wr K70 W74 (Or.inl (List.mem_of_getElem? (i := 0) rfl)))
    have F76 : Fld Z h74 a "com/example/tourwerk/tourwerk/solve/Cheapest" "_position" "I" (.int u1) := Fld.same W74 F72
    refine own_st (T' := T74) (g' := (mkF m 45 #[.val (.ref a), .val (.int u1), .val (.int u2), .val (.double (FP.i2d k)), .second] [])) st74 ?_
    refine own_st (T' := T74) (g' := (mkF m 47 #[.val (.ref a), .val (.int u1), .val (.int u2), .val (.double (FP.i2d k)), .second] [(.int u2), (.ref a)])) (fun _ kt => XS.aloadN X74.here hx rfl (hb hby d4_45) rfl rfl (XS.iloadN X74.here hx rfl (hb hby d4_46) rfl kt)) ?_
    have F77 : Fld Z h74 a "com/example/tourwerk/tourwerk/solve/Cheapest" "_secondPosition" "I" (.int q2) := (Fld.other W74 (Fld.other W69 pr9 (Or.inr (slot_ne (Or.inl (own_k hw 31 rfl)) (Or.inl (own_k hw 27 rfl)) (by decide) (t := .int) (t' := (.object "com/example/tourwerk/tourwerk/solve/Route")) (by decide) (by decide)))) (Or.inr (slot_ne (Or.inl (own_k hw 31 rfl)) (Or.inl (own_k hw 29 rfl)) (by decide) (t := .int) (t' := .int) (by decide) (by decide))))
    have F78 : Exa Z h74 a "com/example/tourwerk/tourwerk/solve/Cheapest" := (Exa.wr W74 F73)
    obtain ⟨T79, h79, X79, e79, W79, st79⟩ := putF X74 hx hZ hown (host := "") (Or.inl (own_k hw 30 rfl)) Via.refl e74 F77 F78 (Or.inl (own_k hw 31 rfl)) (own_k hw 1 rfl) (ty := .int) (by decide) rfl rfl (g := (mkF m 47 #[.val (.ref a), .val (.int u1), .val (.int u2), .val (.double (FP.i2d k)), .second] [(.int u2), (.ref a)])) rfl rfl (hb hby d4_47)
    have N79 := Fr.snoc X79 N74 pr2
    have Z80 : n0 ≤ h79.size := Nat.le_trans Z75 (Nat.le_of_eq (Wr.size W79).symm)
    have K80 : Keep h0 h79 [a] := (Keep.wr K75 W79 (Or.inl (List.mem_of_getElem? (i := 0) rfl)))
    have F81 : Fld Z h79 a "com/example/tourwerk/tourwerk/solve/Cheapest" "_secondPosition" "I" (.int u2) := Fld.same W79 F77
    refine own_st (T' := T79) (g' := (mkF m 50 #[.val (.ref a), .val (.int u1), .val (.int u2), .val (.double (FP.i2d k)), .second] [])) st79 ?_
    refine own_st (T' := T79) (g' := (mkF m 52 #[.val (.ref a), .val (.int u1), .val (.int u2), .val (.double (FP.i2d k)), .second] [(.double (FP.i2d k)), (.ref a)])) (fun _ kt => XS.aloadN X79.here hx rfl (hb hby d4_50) rfl rfl (XS.dloadN X79.here hx rfl (hb hby d4_51) rfl kt)) ?_
    have F82 : Fld Z h79 a "com/example/tourwerk/tourwerk/solve/Cheapest" "_cost" "D" (.double (FP.i2d k0)) := (Fld.other W79 (Fld.other W74 (Fld.other W69 pr3 (Or.inr (slot_ne (Or.inl (own_k hw 14 rfl)) (Or.inl (own_k hw 27 rfl)) (by decide) (t := .double) (t' := (.object "com/example/tourwerk/tourwerk/solve/Route")) (by decide) (by decide)))) (Or.inr (slot_ne (Or.inl (own_k hw 14 rfl)) (Or.inl (own_k hw 29 rfl)) (by decide) (t := .double) (t' := .int) (by decide) (by decide)))) (Or.inr (slot_ne (Or.inl (own_k hw 14 rfl)) (Or.inl (own_k hw 31 rfl)) (by decide) (t := .double) (t' := .int) (by decide) (by decide))))
    have F83 : Exa Z h79 a "com/example/tourwerk/tourwerk/solve/Cheapest" := (Exa.wr W79 F78)
    obtain ⟨T84, h84, X84, e84, W84, st84⟩ := putF X79 hx hZ hown (host := "") (Or.inl (own_k hw 13 rfl)) Via.refl e79 F82 F83 (Or.inl (own_k hw 14 rfl)) (own_k hw 1 rfl) (ty := .double) (by decide) rfl rfl (g := (mkF m 52 #[.val (.ref a), .val (.int u1), .val (.int u2), .val (.double (FP.i2d k)), .second] [(.double (FP.i2d k)), (.ref a)])) rfl rfl (hb hby d4_52)
    have N84 := Fr.snoc X84 N79 pr2
    have Z85 : n0 ≤ h84.size := Nat.le_trans Z80 (Nat.le_of_eq (Wr.size W84).symm)
    have K85 : Keep h0 h84 [a] := (Keep.wr K80 W84 (Or.inl (List.mem_of_getElem? (i := 0) rfl)))
    have F86 : Fld Z h84 a "com/example/tourwerk/tourwerk/solve/Cheapest" "_cost" "D" (.double (FP.i2d k)) := Fld.same W84 F82
    refine own_st (T' := T84) (g' := (mkF m 55 #[.val (.ref a), .val (.int u1), .val (.int u2), .val (.double (FP.i2d k)), .second] [])) st84 ?_
    obtain ⟨fs, hr, hrun, hended, hW, hsame⟩ := X84.leave (v := none) (fun _ => rfl)
    refine own_end (X84.returnOut hx Bd.returns (hb hby d4_55) hr) ⟨_, hrun, hended, _, _, rfl, ?_, ⟨_, rfl⟩, hW, hsame.mono (by decide) (by decide)⟩
    have F87 : Exa Z h84 a "com/example/tourwerk/tourwerk/solve/Cheapest" := (Exa.wr W84 F83)
    have F88 : Fld Z h84 a "com/example/tourwerk/tourwerk/solve/Cheapest" "_random" "Ljava/util/Random;" .null := (Fld.other W84 (Fld.other W79 (Fld.other W74 (Fld.other W69 pr4 (Or.inr (slot_ne (Or.inr (own_k hw 16 rfl)) (Or.inl (own_k hw 27 rfl)) (by decide) (t := (.object "java/util/Random")) (t' := (.object "com/example/tourwerk/tourwerk/solve/Route")) (by decide) (by decide)))) (Or.inr (slot_ne (Or.inr (own_k hw 16 rfl)) (Or.inl (own_k hw 29 rfl)) (by decide) (t := (.object "java/util/Random")) (t' := .int) (by decide) (by decide)))) (Or.inr (slot_ne (Or.inr (own_k hw 16 rfl)) (Or.inl (own_k hw 31 rfl)) (by decide) (t := (.object "java/util/Random")) (t' := .int) (by decide) (by decide)))) (Or.inr (slot_ne (Or.inr (own_k hw 16 rfl)) (Or.inl (own_k hw 14 rfl)) (by decide) (t := (.object "java/util/Random")) (t' := .double) (by decide) (by decide))))
    have F89 : Fld Z h84 a "com/example/tourwerk/tourwerk/solve/Cheapest" "_blink" "D" (.double (0 : UInt64)) := (Fld.other W84 (Fld.other W79 (Fld.other W74 (Fld.other W69 pr5 (Or.inr (slot_ne (Or.inr (own_k hw 18 rfl)) (Or.inl (own_k hw 27 rfl)) (by decide) (t := .double) (t' := (.object "com/example/tourwerk/tourwerk/solve/Route")) (by decide) (by decide)))) (Or.inr (slot_ne (Or.inr (own_k hw 18 rfl)) (Or.inl (own_k hw 29 rfl)) (by decide) (t := .double) (t' := .int) (by decide) (by decide)))) (Or.inr (slot_ne (Or.inr (own_k hw 18 rfl)) (Or.inl (own_k hw 31 rfl)) (by decide) (t := .double) (t' := .int) (by decide) (by decide)))) (Or.inr (slot_ne (Or.inr (own_k hw 18 rfl)) (Or.inl (own_k hw 14 rfl)) (by decide) (t := .double) (t' := .double) (by decide) (by decide))))
    have F90 : Fld Z h84 a "com/example/tourwerk/tourwerk/solve/Cheapest" "_on" "Lcom/example/tourwerk/tourwerk/solve/Route;" .null := (Fld.other W84 (Fld.other W79 (Fld.other W74 (Fld.other W69 pr6 (Or.inr (slot_ne (Or.inl (own_k hw 25 rfl)) (Or.inl (own_k hw 27 rfl)) (by decide) (t := (.object "com/example/tourwerk/tourwerk/solve/Route")) (t' := (.object "com/example/tourwerk/tourwerk/solve/Route")) (by decide) (by decide)))) (Or.inr (slot_ne (Or.inl (own_k hw 25 rfl)) (Or.inl (own_k hw 29 rfl)) (by decide) (t := (.object "com/example/tourwerk/tourwerk/solve/Route")) (t' := .int) (by decide) (by decide)))) (Or.inr (slot_ne (Or.inl (own_k hw 25 rfl)) (Or.inl (own_k hw 31 rfl)) (by decide) (t := (.object "com/example/tourwerk/tourwerk/solve/Route")) (t' := .int) (by decide) (by decide)))) (Or.inr (slot_ne (Or.inl (own_k hw 25 rfl)) (Or.inl (own_k hw 14 rfl)) (by decide) (t := (.object "com/example/tourwerk/tourwerk/solve/Route")) (t' := .double) (by decide) (by decide))))
    have F91 : Fld Z h84 a "com/example/tourwerk/tourwerk/solve/Cheapest" "_route" "Lcom/example/tourwerk/tourwerk/solve/Route;" .null := (Fld.other W84 (Fld.other W79 (Fld.other W74 F71 (Or.inr (slot_ne (Or.inl (own_k hw 27 rfl)) (Or.inl (own_k hw 29 rfl)) (by decide) (t := (.object "com/example/tourwerk/tourwerk/solve/Route")) (t' := .int) (by decide) (by decide)))) (Or.inr (slot_ne (Or.inl (own_k hw 27 rfl)) (Or.inl (own_k hw 31 rfl)) (by decide) (t := (.object "com/example/tourwerk/tourwerk/solve/Route")) (t' := .int) (by decide) (by decide)))) (Or.inr (slot_ne (Or.inl (own_k hw 27 rfl)) (Or.inl (own_k hw 14 rfl)) (by decide) (t := (.object "com/example/tourwerk/tourwerk/solve/Route")) (t' := .double) (by decide) (by decide))))
    have F92 : Fld Z h84 a "com/example/tourwerk/tourwerk/solve/Cheapest" "_position" "I" (.int u1) := (Fld.other W84 (Fld.other W79 F76 (Or.inr (slot_ne (Or.inl (own_k hw 29 rfl)) (Or.inl (own_k hw 31 rfl)) (by decide) (t := .int) (t' := .int) (by decide) (by decide)))) (Or.inr (slot_ne (Or.inl (own_k hw 29 rfl)) (Or.inl (own_k hw 14 rfl)) (by decide) (t := .int) (t' := .double) (by decide) (by decide))))
    have F93 : Fld Z h84 a "com/example/tourwerk/tourwerk/solve/Cheapest" "_secondPosition" "I" (.int u2) := (Fld.other W84 F81 (Or.inr (slot_ne (Or.inl (own_k hw 31 rfl)) (Or.inl (own_k hw 14 rfl)) (by decide) (t := .int) (t' := .double) (by decide) (by decide))))
    show own_of2Q Z a u1 u2 k k0 q1 q2 h0 n0 _ T84.heap _
    rw [e84]
    exact ⟨rfl, N84, K85, F87, (by rw [if_pos (own_c64.mp hc66)]; exact F86), F88, F89, F90, F91, (by rw [if_pos (own_c64.mp hc66)]; exact F92), (by rw [if_pos (own_c64.mp hc66)]; exact F93)⟩
  · -- pc 6: not k.toInt64 < k0.toInt64
    refine own_st (T' := T65) (g' := (mkF m 31 #[.val (.ref a), .val (.int u1), .val (.int u2), .val (.double (FP.i2d k)), .second] [])) (fun _ kt => XS.ifYes X65.here hx rfl (pc0 := 6) (pc' := 31) rfl (hb hby d4_6) rfl (XT.ll_ge_t hc66) (by decide) (by decide) kt) ?_
    obtain ⟨fs, hr, hrun, hended, hW, hsame⟩ := X65.leave (v := none) (fun _ => rfl)
    refine own_end (X65.returnOut hx Bd.returns (hb hby d4_31) hr) ⟨_, hrun, hended, _, _, rfl, ?_, ⟨_, rfl⟩, hW, hsame.mono (by decide) (by decide)⟩
    show own_of2Q Z a u1 u2 k k0 q1 q2 h0 n0 _ T65.heap _
    rw [e65]
    exact ⟨rfl, N0, K0, pr1, (by rw [if_neg (fun q => hc66 (own_c64.mpr q))]; exact pr3), pr4, pr5, pr6, pr7, (by rw [if_neg (fun q => hc66 (own_c64.mpr q))]; exact pr8), (by rw [if_neg (fun q => hc66 (own_c64.mpr q))]; exact pr9)⟩
theorem own_pd2 : parseMethodDescriptor "()V" = some ⟨[], none⟩ := by decide +kernel
theorem own_pd3 : parseMethodDescriptor "(IID)V" = some ⟨[.int, .int, .double], none⟩ := by decide +kernel
theorem own_pd4 : parseMethodDescriptor "(II)I" = some ⟨[.int, .int], some .int⟩ := by decide +kernel
theorem own_pd5 : parseMethodDescriptor "()I" = some ⟨[], some .int⟩ := by decide +kernel
theorem own_pd6 : parseMethodDescriptor "()D" = some ⟨[], some .double⟩ := by decide +kernel
set_option maxHeartbeats 4000000 in
theorem own_ef5 (m : MethodId) (x0 : Int64) (x1 : Int64) (x2 : Int64) (x3 : Int32) (x4 : Int32) (x5 : Int32) : entryFrame m #[(.long x0), (.long x1), (.long x2), (.int x3), (.int x4), (.int x5)] 22 = mkF m 0 #[.val (.long x0), .second, .val (.long x1), .second, .val (.long x2), .second, .val (.int x3), .val (.int x4), .val (.int x5), .unset, .unset, .unset, .unset, .unset, .unset, .unset, .unset, .unset, .unset, .unset, .unset, .unset] [] := by first | (simp [entryFrame, mkF, argsToLocals, Value.category]; done) | rfl
def own_lawQ (Z : State) (x1 : Int64) (x2 : Int64) (x3 : Int64) (y1 : Int32) (y2 : Int32) (y3 : Int32) (h0 : Heap) (n0 : Nat) (v : Option Value) (h : Heap) (L : List Loc) : Prop := v = some (.int (1 : Int32)) ∧ Fr n0 L
theorem own_pn2 : plainName "com/example/tourwerk/tourwerk/solve/CheapestOfferPinLaw" = true := by first | (simp [plainName, overriddenIn]; done) | decide +kernel
set_option maxRecDepth 65536 in
set_option maxHeartbeats 40000000 in
theorem own_law (l : Launch) (Z : State) (a0 : Array Value) (hw : ∀ d ∈ tables_1, d.before a0 Z = true) (ws : List Jvm.Cond) (x1 : Int64) (x2 : Int64) (x3 : Int64) (y1 : Int32) (y2 : Int32) (y3 : Int32) (h0 : Heap) (n0 : Nat) (Z0 : n0 ≤ h0.size)  :
    own_M l x code maxLocals ret ws room_1 #[(.long x1), (.long x2), (.long x3), (.int y1), (.int y2), (.int y3)] Z h0 (own_lawQ Z x1 x2 x3 y1 y2 y3 h0 n0) := by
  refine own_go (plainFor_of_name own_pn2) (fun m => own_ef5 m x1 x2 x3 y1 y2 y3 ) ?_
  intro p e s m below meth c s₁ Bd hx hby hml hZ hh hown hnm X0 e0
  have N0 := Fr.nil n0
  refine own_st (T' := s₁) (g' := (mkF m 5 #[.val (.long x1), .second, .val (.long x2), .second, .val (.long x3), .second, .val (.int y1), .val (.int y2), .val (.int y3), .unset, .unset, .unset, .unset, .unset, .unset, .unset, .unset, .unset, .unset, .unset, .unset, .unset] [(.int ((XT.ushrL x1 (32 : Int32)).toInt32))])) (fun _ kt => XT.lloadN X0.here hx rfl (hb hby at_0) rfl (XS.bipush X0.here hx rfl (hb hby at_1) (XT.lushr X0.here hx rfl (hb hby at_3) rfl (XT.l2i X0.here hx rfl (hb hby at_4) rfl kt)))) ?_
  obtain ⟨pa, hpa⟩ : ∃ z : Int32, z = ((XT.ushrL x1 (32 : Int32)).toInt32) := ⟨_, rfl⟩
  rw [← hpa]
  refine own_st (T' := s₁) (g' := (mkF m 9 #[.val (.long x1), .second, .val (.long x2), .second, .val (.long x3), .second, .val (.int y1), .val (.int y2), .val (.int y3), .val (.int pa), .unset, .unset, .unset, .unset, .unset, .unset, .unset, .unset, .unset, .unset, .unset, .unset] [(.int (x1.toInt32))])) (fun _ kt => XS.istore X0.here hx rfl (hb hby at_5) rfl (l' := #[.val (.long x1), .second, .val (.long x2), .second, .val (.long x3), .second, .val (.int y1), .val (.int y2), .val (.int y3), .val (.int pa), .unset, .unset, .unset, .unset, .unset, .unset, .unset, .unset, .unset, .unset, .unset, .unset]) rfl (XT.lloadN X0.here hx rfl (hb hby at_7) rfl (XT.l2i X0.here hx rfl (hb hby at_8) rfl kt))) ?_
  obtain ⟨sa, hsa⟩ : ∃ z : Int32, z = (x1.toInt32) := ⟨_, rfl⟩
  rw [← hsa]
  refine own_st (T' := s₁) (g' := (mkF m 16 #[.val (.long x1), .second, .val (.long x2), .second, .val (.long x3), .second, .val (.int y1), .val (.int y2), .val (.int y3), .val (.int pa), .val (.int sa), .unset, .unset, .unset, .unset, .unset, .unset, .unset, .unset, .unset, .unset, .unset] [(.int ((XT.ushrL x2 (32 : Int32)).toInt32))])) (fun _ kt => XS.istore X0.here hx rfl (hb hby at_9) rfl (l' := #[.val (.long x1), .second, .val (.long x2), .second, .val (.long x3), .second, .val (.int y1), .val (.int y2), .val (.int y3), .val (.int pa), .val (.int sa), .unset, .unset, .unset, .unset, .unset, .unset, .unset, .unset, .unset, .unset, .unset]) rfl (XT.lloadN X0.here hx rfl (hb hby at_11) rfl (XS.bipush X0.here hx rfl (hb hby at_12) (XT.lushr X0.here hx rfl (hb hby at_14) rfl (XT.l2i X0.here hx rfl (hb hby at_15) rfl kt))))) ?_
  obtain ⟨pb, hpb⟩ : ∃ z : Int32, z = ((XT.ushrL x2 (32 : Int32)).toInt32) := ⟨_, rfl⟩
  rw [← hpb]
  refine own_st (T' := s₁) (g' := (mkF m 20 #[.val (.long x1), .second, .val (.long x2), .second, .val (.long x3), .second, .val (.int y1), .val (.int y2), .val (.int y3), .val (.int pa), .val (.int sa), .val (.int pb), .unset, .unset, .unset, .unset, .unset, .unset, .unset, .unset, .unset, .unset] [(.int (x2.toInt32))])) (fun _ kt => XS.istore X0.here hx rfl (hb hby at_16) rfl (l' := #[.val (.long x1), .second, .val (.long x2), .second, .val (.long x3), .second, .val (.int y1), .val (.int y2), .val (.int y3), .val (.int pa), .val (.int sa), .val (.int pb), .unset, .unset, .unset, .unset, .unset, .unset, .unset, .unset, .unset, .unset]) rfl (XT.lloadN X0.here hx rfl (hb hby at_18) rfl (XT.l2i X0.here hx rfl (hb hby at_19) rfl kt))) ?_
  obtain ⟨sb, hsb⟩ : ∃ z : Int32, z = (x2.toInt32) := ⟨_, rfl⟩
  rw [← hsb]
  refine own_st (T' := s₁) (g' := (mkF m 28 #[.val (.long x1), .second, .val (.long x2), .second, .val (.long x3), .second, .val (.int y1), .val (.int y2), .val (.int y3), .val (.int pa), .val (.int sa), .val (.int pb), .val (.int sb), .unset, .unset, .unset, .unset, .unset, .unset, .unset, .unset, .unset] [(.int ((XT.ushrL x3 (32 : Int32)).toInt32))])) (fun _ kt => XS.istore X0.here hx rfl (hb hby at_20) rfl (l' := #[.val (.long x1), .second, .val (.long x2), .second, .val (.long x3), .second, .val (.int y1), .val (.int y2), .val (.int y3), .val (.int pa), .val (.int sa), .val (.int pb), .val (.int sb), .unset, .unset, .unset, .unset, .unset, .unset, .unset, .unset, .unset]) rfl (XT.lload X0.here hx rfl (hb hby at_22) rfl (XS.bipush X0.here hx rfl (hb hby at_24) (XT.lushr X0.here hx rfl (hb hby at_26) rfl (XT.l2i X0.here hx rfl (hb hby at_27) rfl kt))))) ?_
  obtain ⟨pc, hpc⟩ : ∃ z : Int32, z = ((XT.ushrL x3 (32 : Int32)).toInt32) := ⟨_, rfl⟩
  rw [← hpc]
  refine own_st (T' := s₁) (g' := (mkF m 33 #[.val (.long x1), .second, .val (.long x2), .second, .val (.long x3), .second, .val (.int y1), .val (.int y2), .val (.int y3), .val (.int pa), .val (.int sa), .val (.int pb), .val (.int sb), .val (.int pc), .unset, .unset, .unset, .unset, .unset, .unset, .unset, .unset] [(.int (x3.toInt32))])) (fun _ kt => XS.istore X0.here hx rfl (hb hby at_28) rfl (l' := #[.val (.long x1), .second, .val (.long x2), .second, .val (.long x3), .second, .val (.int y1), .val (.int y2), .val (.int y3), .val (.int pa), .val (.int sa), .val (.int pb), .val (.int sb), .val (.int pc), .unset, .unset, .unset, .unset, .unset, .unset, .unset, .unset]) rfl (XT.lload X0.here hx rfl (hb hby at_30) rfl (XT.l2i X0.here hx rfl (hb hby at_32) rfl kt))) ?_
  obtain ⟨sc, hsc⟩ : ∃ z : Int32, z = (x3.toInt32) := ⟨_, rfl⟩
  rw [← hsc]
  refine own_st (T' := s₁) (g' := (mkF m 40 #[.val (.long x1), .second, .val (.long x2), .second, .val (.long x3), .second, .val (.int y1), .val (.int y2), .val (.int y3), .val (.int pa), .val (.int sa), .val (.int pb), .val (.int sb), .val (.int pc), .val (.int sc), .unset, .unset, .unset, .unset, .unset, .unset, .unset] [(.int (y1 - (y1 / (9 : Int32)) * (9 : Int32)))])) (fun _ kt => XS.istore X0.here hx rfl (hb hby at_33) rfl (l' := #[.val (.long x1), .second, .val (.long x2), .second, .val (.long x3), .second, .val (.int y1), .val (.int y2), .val (.int y3), .val (.int pa), .val (.int sa), .val (.int pb), .val (.int sb), .val (.int pc), .val (.int sc), .unset, .unset, .unset, .unset, .unset, .unset, .unset]) rfl (XS.iload X0.here hx rfl (hb hby at_35) rfl (XS.bipush X0.here hx rfl (hb hby at_37) (XS.irem X0.here hx rfl (hb hby at_39) rfl (by decide) kt)))) ?_
  obtain ⟨ka, hka⟩ : ∃ z : Int32, z = (y1 - (y1 / (9 : Int32)) * (9 : Int32)) := ⟨_, rfl⟩
  rw [← hka]
  refine own_st (T' := s₁) (g' := (mkF m 47 #[.val (.long x1), .second, .val (.long x2), .second, .val (.long x3), .second, .val (.int y1), .val (.int y2), .val (.int y3), .val (.int pa), .val (.int sa), .val (.int pb), .val (.int sb), .val (.int pc), .val (.int sc), .val (.int ka), .unset, .unset, .unset, .unset, .unset, .unset] [(.int (y2 - (y2 / (9 : Int32)) * (9 : Int32)))])) (fun _ kt => XS.istore X0.here hx rfl (hb hby at_40) rfl (l' := #[.val (.long x1), .second, .val (.long x2), .second, .val (.long x3), .second, .val (.int y1), .val (.int y2), .val (.int y3), .val (.int pa), .val (.int sa), .val (.int pb), .val (.int sb), .val (.int pc), .val (.int sc), .val (.int ka), .unset, .unset, .unset, .unset, .unset, .unset]) rfl (XS.iload X0.here hx rfl (hb hby at_42) rfl (XS.bipush X0.here hx rfl (hb hby at_44) (XS.irem X0.here hx rfl (hb hby at_46) rfl (by decide) kt)))) ?_
  obtain ⟨kb, hkb⟩ : ∃ z : Int32, z = (y2 - (y2 / (9 : Int32)) * (9 : Int32)) := ⟨_, rfl⟩
  rw [← hkb]
  refine own_st (T' := s₁) (g' := (mkF m 54 #[.val (.long x1), .second, .val (.long x2), .second, .val (.long x3), .second, .val (.int y1), .val (.int y2), .val (.int y3), .val (.int pa), .val (.int sa), .val (.int pb), .val (.int sb), .val (.int pc), .val (.int sc), .val (.int ka), .val (.int kb), .unset, .unset, .unset, .unset, .unset] [(.int (y3 - (y3 / (9 : Int32)) * (9 : Int32)))])) (fun _ kt => XS.istore X0.here hx rfl (hb hby at_47) rfl (l' := #[.val (.long x1), .second, .val (.long x2), .second, .val (.long x3), .second, .val (.int y1), .val (.int y2), .val (.int y3), .val (.int pa), .val (.int sa), .val (.int pb), .val (.int sb), .val (.int pc), .val (.int sc), .val (.int ka), .val (.int kb), .unset, .unset, .unset, .unset, .unset]) rfl (XS.iload X0.here hx rfl (hb hby at_49) rfl (XS.bipush X0.here hx rfl (hb hby at_51) (XS.irem X0.here hx rfl (hb hby at_53) rfl (by decide) kt)))) ?_
  obtain ⟨kc, hkc⟩ : ∃ z : Int32, z = (y3 - (y3 / (9 : Int32)) * (9 : Int32)) := ⟨_, rfl⟩
  rw [← hkc]
  refine own_st (T' := s₁) (g' := (mkF m 56 #[.val (.long x1), .second, .val (.long x2), .second, .val (.long x3), .second, .val (.int y1), .val (.int y2), .val (.int y3), .val (.int pa), .val (.int sa), .val (.int pb), .val (.int sb), .val (.int pc), .val (.int sc), .val (.int ka), .val (.int kb), .val (.int kc), .unset, .unset, .unset, .unset] [])) (fun _ kt => XS.istore X0.here hx rfl (hb hby at_54) rfl (l' := #[.val (.long x1), .second, .val (.long x2), .second, .val (.long x3), .second, .val (.int y1), .val (.int y2), .val (.int y3), .val (.int pa), .val (.int sa), .val (.int pb), .val (.int sb), .val (.int pc), .val (.int sc), .val (.int ka), .val (.int kb), .val (.int kc), .unset, .unset, .unset, .unset]) rfl kt) ?_
  obtain ⟨T94, h94, X94, e94, E94, A94, D94, -, st94⟩ := newO X0 hx hZ hown (own_k hw 0 rfl) (own_k hw 1 rfl) (own_k hw 2 rfl) e0 (g := (mkF m 56 #[.val (.long x1), .second, .val (.long x2), .second, .val (.long x3), .second, .val (.int y1), .val (.int y2), .val (.int y3), .val (.int pa), .val (.int sa), .val (.int pb), .val (.int sb), .val (.int pc), .val (.int sc), .val (.int ka), .val (.int kb), .val (.int kc), .unset, .unset, .unset, .unset] [])) rfl (hb hby at_56) (by decide) (by decide)
  obtain ⟨b94, g94⟩ : ∃ z, z = h0.size := ⟨_, rfl⟩
  rw [← g94] at A94 D94 st94
  have Z95 : n0 ≤ h94.size := Nat.le_trans Z0 E94.1
  have ge_b94 : n0 ≤ b94 := Nat.le_trans Z0 (Nat.le_of_eq g94.symm)
  have F96 : Fld Z h94 b94 "com/example/tourwerk/tourwerk/solve/Cheapest" "_cost" "D" (.double (0 : UInt64)) := D94 (Or.inl (own_k hw 14 rfl)) (ty := .double) (by decide)
  have F97 : Fld Z h94 b94 "com/example/tourwerk/tourwerk/solve/Cheapest" "_random" "Ljava/util/Random;" .null := D94 (Or.inr (own_k hw 16 rfl)) (ty := (.object "java/util/Random")) (by decide)
  have F98 : Fld Z h94 b94 "com/example/tourwerk/tourwerk/solve/Cheapest" "_blink" "D" (.double (0 : UInt64)) := D94 (Or.inr (own_k hw 18 rfl)) (ty := .double) (by decide)
  have F99 : Fld Z h94 b94 "com/example/tourwerk/tourwerk/solve/Cheapest" "_on" "Lcom/example/tourwerk/tourwerk/solve/Route;" .null := D94 (Or.inl (own_k hw 25 rfl)) (ty := (.object "com/example/tourwerk/tourwerk/solve/Route")) (by decide)
  have F100 : Fld Z h94 b94 "com/example/tourwerk/tourwerk/solve/Cheapest" "_route" "Lcom/example/tourwerk/tourwerk/solve/Route;" .null := D94 (Or.inl (own_k hw 27 rfl)) (ty := (.object "com/example/tourwerk/tourwerk/solve/Route")) (by decide)
  have F101 : Fld Z h94 b94 "com/example/tourwerk/tourwerk/solve/Cheapest" "_position" "I" (.int (0 : Int32)) := D94 (Or.inl (own_k hw 29 rfl)) (ty := .int) (by decide)
  have F102 : Fld Z h94 b94 "com/example/tourwerk/tourwerk/solve/Cheapest" "_secondPosition" "I" (.int (0 : Int32)) := D94 (Or.inl (own_k hw 31 rfl)) (ty := .int) (by decide)
  refine own_st (T' := T94) (g' := (mkF m 59 #[.val (.long x1), .second, .val (.long x2), .second, .val (.long x3), .second, .val (.int y1), .val (.int y2), .val (.int y3), .val (.int pa), .val (.int sa), .val (.int pb), .val (.int sb), .val (.int pc), .val (.int sc), .val (.int ka), .val (.int kb), .val (.int kc), .unset, .unset, .unset, .unset] [(.ref b94)])) st94 ?_
  refine own_st (T' := T94) (g' := (mkF m 60 #[.val (.long x1), .second, .val (.long x2), .second, .val (.long x3), .second, .val (.int y1), .val (.int y2), .val (.int y3), .val (.int pa), .val (.int sa), .val (.int pb), .val (.int sb), .val (.int pc), .val (.int sc), .val (.int ka), .val (.int kb), .val (.int kc), .unset, .unset, .unset, .unset] [(.ref b94), (.ref b94)])) (fun _ kt => XS.dup X94.here hx rfl (hb hby at_59) rfl rfl kt) ?_
  obtain ⟨_, _, ⟨T103, L103, k103, n103⟩, -, X103, ⟨Lc103, hQ103, l103, y103, z103⟩, st103⟩ := X94.specialBack hx (y := (⟨"com/example/tourwerk/tourwerk/solve/Cheapest", "<init>", "()V"⟩ : MethodName)) rfl hown (mvT hZ (own_k hw 3 rfl)) (mvT hZ (own_k hw 4 rfl)) (mvT hZ (own_k hw 5 rfl)) (by decide) (backOf (W := 1) (own_r2 l Z a0 hw [] b94 h94 n0 Z95 A94 ge_b94 F96 F97 F98 F99 F100 F101 F102) hZ (own_k hw 5 rfl) (own_k hw 2 rfl) (by decide) (by decide)) (g := (mkF m 60 #[.val (.long x1), .second, .val (.long x2), .second, .val (.long x3), .second, .val (.int y1), .val (.int y2), .val (.int y3), .val (.int pa), .val (.int sa), .val (.int pb), .val (.int sb), .val (.int pc), .val (.int sc), .val (.int ka), .val (.int kb), .val (.int kc), .unset, .unset, .unset, .unset] [(.ref b94), (.ref b94)])) rfl hml.symm (Steps.refl _) (a := b94) (argsL := []) (rest := [(.ref b94)]) (lenOf own_pd2 rfl) rfl (by show 2 * 0 + _ ≤ _; exact Nat.le_of_eq rfl) (hb hby at_60) (fun _ _ => ⟨rfl, e94, (by decide : 1 + 0 ≤ 16), (by decide : 7 + 0 ≤ 128)⟩)
  dsimp only [Pt.U, Pt.locs, Pt.cells, Pt.slots] at X103 l103 y103 z103 st103 hQ103
  subst l103 y103 z103
  obtain ⟨rfl, N103, K103_, P104, P105, P106, P107, P108, P109, P110, P111⟩ := hQ103
  have N112 := Fr.app N0 N103
  have Z113 : n0 ≤ T103.heap.size := Nat.le_trans Z95 K103_.1
  refine own_tr (T' := T103) (g' := (mkF m 63 #[.val (.long x1), .second, .val (.long x2), .second, .val (.long x3), .second, .val (.int y1), .val (.int y2), .val (.int y3), .val (.int pa), .val (.int sa), .val (.int pb), .val (.int sb), .val (.int pc), .val (.int sc), .val (.int ka), .val (.int kb), .val (.int kc), .unset, .unset, .unset, .unset] [(.ref b94)])) st103 ?_
  refine own_st (T' := T103) (g' := (mkF m 74 #[.val (.long x1), .second, .val (.long x2), .second, .val (.long x3), .second, .val (.int y1), .val (.int y2), .val (.int y3), .val (.int pa), .val (.int sa), .val (.int pb), .val (.int sb), .val (.int pc), .val (.int sc), .val (.int ka), .val (.int kb), .val (.int kc), .val (.ref b94), .unset, .unset, .unset] [(.double (FP.i2d ka)), (.int sa), (.int pa), (.ref b94)])) (fun _ kt => XS.astore X103.here hx rfl (hb hby at_63) rfl rfl (l' := #[.val (.long x1), .second, .val (.long x2), .second, .val (.long x3), .second, .val (.int y1), .val (.int y2), .val (.int y3), .val (.int pa), .val (.int sa), .val (.int pb), .val (.int sb), .val (.int pc), .val (.int sc), .val (.int ka), .val (.int kb), .val (.int kc), .val (.ref b94), .unset, .unset, .unset]) rfl (XS.aload X103.here hx rfl (hb hby at_65) rfl rfl (XS.iload X103.here hx rfl (hb hby at_67) rfl (XS.iload X103.here hx rfl (hb hby at_69) rfl (XS.iload X103.here hx rfl (hb hby at_71) rfl (XS.i2dS X103.here hx rfl (hb hby at_73) rfl rfl kt)))))) ?_
  obtain ⟨cq115, kq115, qa115, qb115, qc115⟩ := isOf hZ rfl P104
  obtain ⟨_, _, ⟨T114, L114, k114, n114⟩, -, X114, ⟨Lc114, hQ114, l114, y114, z114⟩, st114⟩ := X103.virtualBack hx (y := (⟨"com/example/tourwerk/tourwerk/solve/Cheapest", "offer", "(IID)V"⟩ : MethodName)) (z := (⟨"com/example/tourwerk/tourwerk/solve/Cheapest", "offer", "(IID)V"⟩ : MethodName)) hown (mvT hZ (own_k hw 19 rfl)) (mvT hZ (own_k hw 20 rfl)) (notFace_of_selects (args := #[]) (mvT hZ (own_k hw 22 rfl))) (mvT hZ (own_k hw 22 rfl)) (mvT hZ (own_k hw 21 rfl)) (by decide) (backOf (W := 0) (own_of1 l Z a0 hw [] b94 pa sa ka T103.heap n0 Z113 P104 ge_b94 P105 P106 P107 P108 P109 P110 P111) hZ (own_k hw 23 rfl) (own_k hw 2 rfl) (by decide) (by decide)) qa115 qc115 (g := (mkF m 74 #[.val (.long x1), .second, .val (.long x2), .second, .val (.long x3), .second, .val (.int y1), .val (.int y2), .val (.int y3), .val (.int pa), .val (.int sa), .val (.int pb), .val (.int sb), .val (.int pc), .val (.int sc), .val (.int ka), .val (.int kb), .val (.int kc), .val (.ref b94), .unset, .unset, .unset] [(.double (FP.i2d ka)), (.int sa), (.int pa), (.ref b94)])) rfl hml.symm (Steps.refl _) (argsL := [(.int pa), (.int sa), (.double (FP.i2d ka))]) (rest := []) (lenOf own_pd3 rfl) rfl (by show 2 * 0 + _ ≤ _; exact Nat.le_of_eq rfl) (hb hby at_74) (fun _ _ => ⟨rfl, rfl, (by decide : 1 + 0 ≤ 16), (by decide : 7 + 0 ≤ 128)⟩)
  dsimp only [Pt.U, Pt.locs, Pt.cells, Pt.slots] at X114 l114 y114 z114 st114 hQ114
  subst l114 y114 z114
  obtain ⟨rfl, N114, K114_, P116, P117, P118, P119, P120, P121, P122, P123⟩ := hQ114
  have N124 := Fr.app N112 N114
  have Z125 : n0 ≤ T114.heap.size := Nat.le_trans Z113 K114_.1
  refine own_tr (T' := T114) (g' := (mkF m 77 #[.val (.long x1), .second, .val (.long x2), .second, .val (.long x3), .second, .val (.int y1), .val (.int y2), .val (.int y3), .val (.int pa), .val (.int sa), .val (.int pb), .val (.int sb), .val (.int pc), .val (.int sc), .val (.int ka), .val (.int kb), .val (.int kc), .val (.ref b94), .unset, .unset, .unset] [])) st114 ?_
  refine own_st (T' := T114) (g' := (mkF m 86 #[.val (.long x1), .second, .val (.long x2), .second, .val (.long x3), .second, .val (.int y1), .val (.int y2), .val (.int y3), .val (.int pa), .val (.int sa), .val (.int pb), .val (.int sb), .val (.int pc), .val (.int sc), .val (.int ka), .val (.int kb), .val (.int kc), .val (.ref b94), .unset, .unset, .unset] [(.double (FP.i2d kb)), (.int sb), (.int pb), (.ref b94)])) (fun _ kt => XS.aload X114.here hx rfl (hb hby at_77) rfl rfl (XS.iload X114.here hx rfl (hb hby at_79) rfl (XS.iload X114.here hx rfl (hb hby at_81) rfl (XS.iload X114.here hx rfl (hb hby at_83) rfl (XS.i2dS X114.here hx rfl (hb hby at_85) rfl rfl kt))))) ?_
  obtain ⟨cq127, kq127, qa127, qb127, qc127⟩ := isOf hZ rfl P116
  obtain ⟨_, _, ⟨T126, L126, k126, n126⟩, -, X126, ⟨Lc126, hQ126, l126, y126, z126⟩, st126⟩ := X114.virtualBack hx (y := (⟨"com/example/tourwerk/tourwerk/solve/Cheapest", "offer", "(IID)V"⟩ : MethodName)) (z := (⟨"com/example/tourwerk/tourwerk/solve/Cheapest", "offer", "(IID)V"⟩ : MethodName)) hown (mvT hZ (own_k hw 19 rfl)) (mvT hZ (own_k hw 20 rfl)) (notFace_of_selects (args := #[]) (mvT hZ (own_k hw 22 rfl))) (mvT hZ (own_k hw 22 rfl)) (mvT hZ (own_k hw 21 rfl)) (by decide) (backOf (W := 0) (own_of2 l Z a0 hw [] b94 pb sb kb ka pa sa T114.heap n0 Z125 P116 ge_b94 P117 P118 P119 P120 P121 P122 P123) hZ (own_k hw 23 rfl) (own_k hw 2 rfl) (by decide) (by decide)) qa127 qc127 (g := (mkF m 86 #[.val (.long x1), .second, .val (.long x2), .second, .val (.long x3), .second, .val (.int y1), .val (.int y2), .val (.int y3), .val (.int pa), .val (.int sa), .val (.int pb), .val (.int sb), .val (.int pc), .val (.int sc), .val (.int ka), .val (.int kb), .val (.int kc), .val (.ref b94), .unset, .unset, .unset] [(.double (FP.i2d kb)), (.int sb), (.int pb), (.ref b94)])) rfl hml.symm (Steps.refl _) (argsL := [(.int pb), (.int sb), (.double (FP.i2d kb))]) (rest := []) (lenOf own_pd3 rfl) rfl (by show 2 * 0 + _ ≤ _; exact Nat.le_of_eq rfl) (hb hby at_86) (fun _ _ => ⟨rfl, rfl, (by decide : 1 + 0 ≤ 16), (by decide : 7 + 0 ≤ 128)⟩)
  dsimp only [Pt.U, Pt.locs, Pt.cells, Pt.slots] at X126 l126 y126 z126 st126 hQ126
  subst l126 y126 z126
  obtain ⟨rfl, N126, K126_, P128, P129, P130, P131, P132, P133, P134, P135⟩ := hQ126
  have N136 := Fr.app N124 N126
  have Z137 : n0 ≤ T126.heap.size := Nat.le_trans Z125 K126_.1
  refine own_tr (T' := T126) (g' := (mkF m 89 #[.val (.long x1), .second, .val (.long x2), .second, .val (.long x3), .second, .val (.int y1), .val (.int y2), .val (.int y3), .val (.int pa), .val (.int sa), .val (.int pb), .val (.int sb), .val (.int pc), .val (.int sc), .val (.int ka), .val (.int kb), .val (.int kc), .val (.ref b94), .unset, .unset, .unset] [])) st126 ?_
  refine own_st (T' := T126) (g' := (mkF m 98 #[.val (.long x1), .second, .val (.long x2), .second, .val (.long x3), .second, .val (.int y1), .val (.int y2), .val (.int y3), .val (.int pa), .val (.int sa), .val (.int pb), .val (.int sb), .val (.int pc), .val (.int sc), .val (.int ka), .val (.int kb), .val (.int kc), .val (.ref b94), .unset, .unset, .unset] [(.double (FP.i2d kc)), (.int sc), (.int pc), (.ref b94)])) (fun _ kt => XS.aload X126.here hx rfl (hb hby at_89) rfl rfl (XS.iload X126.here hx rfl (hb hby at_91) rfl (XS.iload X126.here hx rfl (hb hby at_93) rfl (XS.iload X126.here hx rfl (hb hby at_95) rfl (XS.i2dS X126.here hx rfl (hb hby at_97) rfl rfl kt))))) ?_
  obtain ⟨cq139, kq139, qa139, qb139, qc139⟩ := isOf hZ rfl P128
  obtain ⟨_, _, ⟨T138, L138, k138, n138⟩, -, X138, ⟨Lc138, hQ138, l138, y138, z138⟩, st138⟩ := X126.virtualBack hx (y := (⟨"com/example/tourwerk/tourwerk/solve/Cheapest", "offer", "(IID)V"⟩ : MethodName)) (z := (⟨"com/example/tourwerk/tourwerk/solve/Cheapest", "offer", "(IID)V"⟩ : MethodName)) hown (mvT hZ (own_k hw 19 rfl)) (mvT hZ (own_k hw 20 rfl)) (notFace_of_selects (args := #[]) (mvT hZ (own_k hw 22 rfl))) (mvT hZ (own_k hw 22 rfl)) (mvT hZ (own_k hw 21 rfl)) (by decide) (backOf (W := 0) (own_of2 l Z a0 hw [] b94 pc sc kc (if kb < ka then kb else ka) (if kb < ka then pb else pa) (if kb < ka then sb else sa) T126.heap n0 Z137 P128 ge_b94 P129 P130 P131 P132 P133 P134 P135) hZ (own_k hw 23 rfl) (own_k hw 2 rfl) (by decide) (by decide)) qa139 qc139 (g := (mkF m 98 #[.val (.long x1), .second, .val (.long x2), .second, .val (.long x3), .second, .val (.int y1), .val (.int y2), .val (.int y3), .val (.int pa), .val (.int sa), .val (.int pb), .val (.int sb), .val (.int pc), .val (.int sc), .val (.int ka), .val (.int kb), .val (.int kc), .val (.ref b94), .unset, .unset, .unset] [(.double (FP.i2d kc)), (.int sc), (.int pc), (.ref b94)])) rfl hml.symm (Steps.refl _) (argsL := [(.int pc), (.int sc), (.double (FP.i2d kc))]) (rest := []) (lenOf own_pd3 rfl) rfl (by show 2 * 0 + _ ≤ _; exact Nat.le_of_eq rfl) (hb hby at_98) (fun _ _ => ⟨rfl, rfl, (by decide : 1 + 0 ≤ 16), (by decide : 7 + 0 ≤ 128)⟩)
  dsimp only [Pt.U, Pt.locs, Pt.cells, Pt.slots] at X138 l138 y138 z138 st138 hQ138
  subst l138 y138 z138
  obtain ⟨rfl, N138, K138_, P140, P141, P142, P143, P144, P145, P146, P147⟩ := hQ138
  have N148 := Fr.app N136 N138
  have Z149 : n0 ≤ T138.heap.size := Nat.le_trans Z137 K138_.1
  refine own_tr (T' := T138) (g' := (mkF m 101 #[.val (.long x1), .second, .val (.long x2), .second, .val (.long x3), .second, .val (.int y1), .val (.int y2), .val (.int y3), .val (.int pa), .val (.int sa), .val (.int pb), .val (.int sb), .val (.int pc), .val (.int sc), .val (.int ka), .val (.int kb), .val (.int kc), .val (.ref b94), .unset, .unset, .unset] [])) st138 ?_
  refine own_st (T' := T138) (g' := (mkF m 107 #[.val (.long x1), .second, .val (.long x2), .second, .val (.long x3), .second, .val (.int y1), .val (.int y2), .val (.int y3), .val (.int pa), .val (.int sa), .val (.int pb), .val (.int sb), .val (.int pc), .val (.int sc), .val (.int ka), .val (.int kb), .val (.int kc), .val (.ref b94), .unset, .unset, .unset] [(.int kc), (.int kb), (.int ka)])) (fun _ kt => XS.iload X138.here hx rfl (hb hby at_101) rfl (XS.iload X138.here hx rfl (hb hby at_103) rfl (XS.iload X138.here hx rfl (hb hby at_105) rfl kt))) ?_
  obtain ⟨_, _, ⟨T150, L150, k150, n150⟩, -, X150, ⟨Lc150, hQ150, l150, y150, z150⟩, st150⟩ := Jvm.LawKit.callS X138 hx (y := (⟨"java/lang/Math", "min", "(II)I"⟩ : MethodName)) hown (mvT hZ (own_k hw 32 rfl)) (mvT hZ (own_k hw 33 rfl)) (mvT hZ (own_k hw 34 rfl)) (mvT hZ (own_k hw 35 rfl)) (by decide) (backOf (W := 1) (own_r3 l Z a0 hw [] kb kc T138.heap n0 Z149 ) hZ (own_k hw 35 rfl) (own_k hw 34 rfl) (by decide) (by decide)) (g := (mkF m 107 #[.val (.long x1), .second, .val (.long x2), .second, .val (.long x3), .second, .val (.int y1), .val (.int y2), .val (.int y3), .val (.int pa), .val (.int sa), .val (.int pb), .val (.int sb), .val (.int pc), .val (.int sc), .val (.int ka), .val (.int kb), .val (.int kc), .val (.ref b94), .unset, .unset, .unset] [(.int kc), (.int kb), (.int ka)])) rfl hml.symm  (argsL := [(.int kb), (.int kc)]) (rest := [(.int ka)]) (lenOf own_pd4 rfl) rfl (by show 2 * 0 + _ ≤ _; exact Nat.le_of_eq rfl) (hb hby at_107) (fun _ _ => ⟨rfl, rfl, (by decide : 1 + 0 ≤ 16), (by decide : 7 + 0 ≤ 128)⟩)
  dsimp only [Pt.U, Pt.locs, Pt.cells, Pt.slots] at X150 l150 y150 z150 st150 hQ150
  subst l150 y150 z150
  obtain ⟨rfl, N150, e150⟩ := hQ150
  have N151 := Fr.app N148 N150
  refine own_st (T' := T150) (g' := (mkF m 110 #[.val (.long x1), .second, .val (.long x2), .second, .val (.long x3), .second, .val (.int y1), .val (.int y2), .val (.int y3), .val (.int pa), .val (.int sa), .val (.int pb), .val (.int sb), .val (.int pc), .val (.int sc), .val (.int ka), .val (.int kb), .val (.int kc), .val (.ref b94), .unset, .unset, .unset] [(.int (if kc < kb then kc else kb)), (.int ka)])) st150 ?_
  obtain ⟨_, _, ⟨T152, L152, k152, n152⟩, -, X152, ⟨Lc152, hQ152, l152, y152, z152⟩, st152⟩ := Jvm.LawKit.callS X150 hx (y := (⟨"java/lang/Math", "min", "(II)I"⟩ : MethodName)) hown (mvT hZ (own_k hw 32 rfl)) (mvT hZ (own_k hw 33 rfl)) (mvT hZ (own_k hw 34 rfl)) (mvT hZ (own_k hw 35 rfl)) (by decide) (backOf (W := 0) (own_r3 l Z a0 hw [] ka (if kc < kb then kc else kb) T138.heap n0 Z149 ) hZ (own_k hw 35 rfl) (own_k hw 34 rfl) (by decide) (by decide)) (g := (mkF m 110 #[.val (.long x1), .second, .val (.long x2), .second, .val (.long x3), .second, .val (.int y1), .val (.int y2), .val (.int y3), .val (.int pa), .val (.int sa), .val (.int pb), .val (.int sb), .val (.int pc), .val (.int sc), .val (.int ka), .val (.int kb), .val (.int kc), .val (.ref b94), .unset, .unset, .unset] [(.int (if kc < kb then kc else kb)), (.int ka)])) rfl hml.symm  (argsL := [(.int ka), (.int (if kc < kb then kc else kb))]) (rest := []) (lenOf own_pd4 rfl) rfl (by show 2 * 0 + _ ≤ _; exact Nat.le_of_eq rfl) (hb hby at_110) (fun _ _ => ⟨rfl, e150, (by decide : 1 + 0 ≤ 16), (by decide : 7 + 0 ≤ 128)⟩)
  dsimp only [Pt.U, Pt.locs, Pt.cells, Pt.slots] at X152 l152 y152 z152 st152 hQ152
  subst l152 y152 z152
  obtain ⟨rfl, N152, e152⟩ := hQ152
  have N153 := Fr.app N151 N152
  refine own_st (T' := T152) (g' := (mkF m 113 #[.val (.long x1), .second, .val (.long x2), .second, .val (.long x3), .second, .val (.int y1), .val (.int y2), .val (.int y3), .val (.int pa), .val (.int sa), .val (.int pb), .val (.int sb), .val (.int pc), .val (.int sc), .val (.int ka), .val (.int kb), .val (.int kc), .val (.ref b94), .unset, .unset, .unset] [(.int (if (if kc < kb then kc else kb) < ka then (if kc < kb then kc else kb) else ka))])) st152 ?_
  refine own_st (T' := T152) (g' := (mkF m 119 #[.val (.long x1), .second, .val (.long x2), .second, .val (.long x3), .second, .val (.int y1), .val (.int y2), .val (.int y3), .val (.int pa), .val (.int sa), .val (.int pb), .val (.int sb), .val (.int pc), .val (.int sc), .val (.int ka), .val (.int kb), .val (.int kc), .val (.ref b94), .val (.int (if (if kc < kb then kc else kb) < ka then (if kc < kb then kc else kb) else ka)), .unset, .unset] [(.int (if (if kc < kb then kc else kb) < ka then (if kc < kb then kc else kb) else ka)), (.int ka)])) (fun _ kt => XS.istore X152.here hx rfl (hb hby at_113) rfl (l' := #[.val (.long x1), .second, .val (.long x2), .second, .val (.long x3), .second, .val (.int y1), .val (.int y2), .val (.int y3), .val (.int pa), .val (.int sa), .val (.int pb), .val (.int sb), .val (.int pc), .val (.int sc), .val (.int ka), .val (.int kb), .val (.int kc), .val (.ref b94), .val (.int (if (if kc < kb then kc else kb) < ka then (if kc < kb then kc else kb) else ka)), .unset, .unset]) rfl (XS.iload X152.here hx rfl (hb hby at_115) rfl (XS.iload X152.here hx rfl (hb hby at_117) rfl kt))) ?_
  by_cases hc154 : ka = (if (if kc < kb then kc else kb) < ka then (if kc < kb then kc else kb) else ka)
  · -- pc 119: ka = (if (if kc < kb then kc else kb) < ka then (if kc < kb then kc else kb) else ka)
    refine own_st (T' := T152) (g' := (mkF m 161 #[.val (.long x1), .second, .val (.long x2), .second, .val (.long x3), .second, .val (.int y1), .val (.int y2), .val (.int y3), .val (.int pa), .val (.int sa), .val (.int pb), .val (.int sb), .val (.int pc), .val (.int sc), .val (.int ka), .val (.int kb), .val (.int kc), .val (.ref b94), .val (.int (if (if kc < kb then kc else kb) < ka then (if kc < kb then kc else kb) else ka)), .val (.int pa), .val (.int sa)] [(.ref b94)])) (fun _ kt => XS.icmpNo X152.here hx rfl (hb hby at_119) rfl (XT.ii_ne_f hc154) (XS.iload X152.here hx rfl (hb hby at_122) rfl (XS.istore X152.here hx rfl (hb hby at_124) rfl (l' := #[.val (.long x1), .second, .val (.long x2), .second, .val (.long x3), .second, .val (.int y1), .val (.int y2), .val (.int y3), .val (.int pa), .val (.int sa), .val (.int pb), .val (.int sb), .val (.int pc), .val (.int sc), .val (.int ka), .val (.int kb), .val (.int kc), .val (.ref b94), .val (.int (if (if kc < kb then kc else kb) < ka then (if kc < kb then kc else kb) else ka)), .val (.int pa), .unset]) rfl (XS.iload X152.here hx rfl (hb hby at_126) rfl (XS.istore X152.here hx rfl (hb hby at_128) rfl (l' := #[.val (.long x1), .second, .val (.long x2), .second, .val (.long x3), .second, .val (.int y1), .val (.int y2), .val (.int y3), .val (.int pa), .val (.int sa), .val (.int pb), .val (.int sb), .val (.int pc), .val (.int sc), .val (.int ka), .val (.int kb), .val (.int kc), .val (.ref b94), .val (.int (if (if kc < kb then kc else kb) < ka then (if kc < kb then kc else kb) else ka)), .val (.int pa), .val (.int sa)]) rfl (XS.goto X152.here hx rfl (pc0 := 130) (pc' := 159) rfl (hb hby at_130) (by decide) (by decide) (XS.aload X152.here hx rfl (hb hby at_159) rfl rfl kt))))))) ?_
    obtain ⟨cq156, kq156, qa156, qb156, qc156⟩ := isOf hZ e152 P140
    obtain ⟨_, _, ⟨T155, L155, k155, n155⟩, -, X155, ⟨Lc155, hQ155, l155, y155, z155⟩, st155⟩ := X152.virtualBack hx (y := (⟨"com/example/tourwerk/tourwerk/solve/Cheapest", "position", "()I"⟩ : MethodName)) (z := (⟨"com/example/tourwerk/tourwerk/solve/Cheapest", "position", "()I"⟩ : MethodName)) hown (mvT hZ (own_k hw 36 rfl)) (mvT hZ (own_k hw 37 rfl)) (notFace_of_selects (args := #[]) (mvT hZ (own_k hw 39 rfl))) (mvT hZ (own_k hw 39 rfl)) (mvT hZ (own_k hw 38 rfl)) (by decide) (backOf (W := 0) (own_pos l Z a0 hw [] b94 (if kc < (if kb < ka then kb else ka) then pc else (if kb < ka then pb else pa)) T138.heap n0 Z149 P146) hZ (own_k hw 40 rfl) (own_k hw 2 rfl) (by decide) (by decide)) qa156 qc156 (g := (mkF m 161 #[.val (.long x1), .second, .val (.long x2), .second, .val (.long x3), .second, .val (.int y1), .val (.int y2), .val (.int y3), .val (.int pa), .val (.int sa), .val (.int pb), .val (.int sb), .val (.int pc), .val (.int sc), .val (.int ka), .val (.int kb), .val (.int kc), .val (.ref b94), .val (.int (if (if kc < kb then kc else kb) < ka then (if kc < kb then kc else kb) else ka)), .val (.int pa), .val (.int sa)] [(.ref b94)])) rfl hml.symm (Steps.refl _) (argsL := []) (rest := []) (lenOf own_pd5 rfl) rfl (by show 2 * 0 + _ ≤ _; exact Nat.le_of_eq rfl) (hb hby at_161) (fun _ _ => ⟨rfl, e152, (by decide : 1 + 0 ≤ 16), (by decide : 7 + 0 ≤ 128)⟩)
    dsimp only [Pt.U, Pt.locs, Pt.cells, Pt.slots] at X155 l155 y155 z155 st155 hQ155
    subst l155 y155 z155
    obtain ⟨rfl, N155, e155⟩ := hQ155
    have N157 := Fr.app N153 N155
    refine own_tr (T' := T155) (g' := (mkF m 164 #[.val (.long x1), .second, .val (.long x2), .second, .val (.long x3), .second, .val (.int y1), .val (.int y2), .val (.int y3), .val (.int pa), .val (.int sa), .val (.int pb), .val (.int sb), .val (.int pc), .val (.int sc), .val (.int ka), .val (.int kb), .val (.int kc), .val (.ref b94), .val (.int (if (if kc < kb then kc else kb) < ka then (if kc < kb then kc else kb) else ka)), .val (.int pa), .val (.int sa)] [(.int (if kc < (if kb < ka then kb else ka) then pc else (if kb < ka then pb else pa)))])) st155 ?_
    refine own_st (T' := T155) (g' := (mkF m 171 #[.val (.long x1), .second, .val (.long x2), .second, .val (.long x3), .second, .val (.int y1), .val (.int y2), .val (.int y3), .val (.int pa), .val (.int sa), .val (.int pb), .val (.int sb), .val (.int pc), .val (.int sc), .val (.int ka), .val (.int kb), .val (.int kc), .val (.ref b94), .val (.int (if (if kc < kb then kc else kb) < ka then (if kc < kb then kc else kb) else ka)), .val (.int pa), .val (.int sa)] [(.ref b94)])) (fun _ kt => XS.iload X155.here hx rfl (hb hby at_164) rfl (XS.icmpNo X155.here hx rfl (hb hby at_166) rfl (XT.ii_ne_f (own_q1 _ _ _ hc154)) (XS.aload X155.here hx rfl (hb hby at_169) rfl rfl kt))) ?_
    obtain ⟨cq159, kq159, qa159, qb159, qc159⟩ := isOf hZ e155 P140
    obtain ⟨_, _, ⟨T158, L158, k158, n158⟩, -, X158, ⟨Lc158, hQ158, l158, y158, z158⟩, st158⟩ := X155.virtualBack hx (y := (⟨"com/example/tourwerk/tourwerk/solve/Cheapest", "secondPosition", "()I"⟩ : MethodName)) (z := (⟨"com/example/tourwerk/tourwerk/solve/Cheapest", "secondPosition", "()I"⟩ : MethodName)) hown (mvT hZ (own_k hw 41 rfl)) (mvT hZ (own_k hw 42 rfl)) (notFace_of_selects (args := #[]) (mvT hZ (own_k hw 44 rfl))) (mvT hZ (own_k hw 44 rfl)) (mvT hZ (own_k hw 43 rfl)) (by decide) (backOf (W := 0) (own_sec l Z a0 hw [] b94 (if kc < (if kb < ka then kb else ka) then sc else (if kb < ka then sb else sa)) T138.heap n0 Z149 P147) hZ (own_k hw 45 rfl) (own_k hw 2 rfl) (by decide) (by decide)) qa159 qc159 (g := (mkF m 171 #[.val (.long x1), .second, .val (.long x2), .second, .val (.long x3), .second, .val (.int y1), .val (.int y2), .val (.int y3), .val (.int pa), .val (.int sa), .val (.int pb), .val (.int sb), .val (.int pc), .val (.int sc), .val (.int ka), .val (.int kb), .val (.int kc), .val (.ref b94), .val (.int (if (if kc < kb then kc else kb) < ka then (if kc < kb then kc else kb) else ka)), .val (.int pa), .val (.int sa)] [(.ref b94)])) rfl hml.symm (Steps.refl _) (argsL := []) (rest := []) (lenOf own_pd5 rfl) rfl (by show 2 * 0 + _ ≤ _; exact Nat.le_of_eq rfl) (hb hby at_171) (fun _ _ => ⟨rfl, e155, (by decide : 1 + 0 ≤ 16), (by decide : 7 + 0 ≤ 128)⟩)
    dsimp only [Pt.U, Pt.locs, Pt.cells, Pt.slots] at X158 l158 y158 z158 st158 hQ158
    subst l158 y158 z158
    obtain ⟨rfl, N158, e158⟩ := hQ158
    have N160 := Fr.app N157 N158
    refine own_tr (T' := T158) (g' := (mkF m 174 #[.val (.long x1), .second, .val (.long x2), .second, .val (.long x3), .second, .val (.int y1), .val (.int y2), .val (.int y3), .val (.int pa), .val (.int sa), .val (.int pb), .val (.int sb), .val (.int pc), .val (.int sc), .val (.int ka), .val (.int kb), .val (.int kc), .val (.ref b94), .val (.int (if (if kc < kb then kc else kb) < ka then (if kc < kb then kc else kb) else ka)), .val (.int pa), .val (.int sa)] [(.int (if kc < (if kb < ka then kb else ka) then sc else (if kb < ka then sb else sa)))])) st158 ?_
    refine own_st (T' := T158) (g' := (mkF m 181 #[.val (.long x1), .second, .val (.long x2), .second, .val (.long x3), .second, .val (.int y1), .val (.int y2), .val (.int y3), .val (.int pa), .val (.int sa), .val (.int pb), .val (.int sb), .val (.int pc), .val (.int sc), .val (.int ka), .val (.int kb), .val (.int kc), .val (.ref b94), .val (.int (if (if kc < kb then kc else kb) < ka then (if kc < kb then kc else kb) else ka)), .val (.int pa), .val (.int sa)] [(.ref b94)])) (fun _ kt => XS.iload X158.here hx rfl (hb hby at_174) rfl (XS.icmpNo X158.here hx rfl (hb hby at_176) rfl (XT.ii_ne_f (own_q1 _ _ _ hc154)) (XS.aload X158.here hx rfl (hb hby at_179) rfl rfl kt))) ?_
    obtain ⟨cq162, kq162, qa162, qb162, qc162⟩ := isOf hZ e158 P140
    obtain ⟨_, _, ⟨T161, L161, k161, n161⟩, -, X161, ⟨Lc161, hQ161, l161, y161, z161⟩, st161⟩ := X158.virtualBack hx (y := (⟨"com/example/tourwerk/tourwerk/solve/Cheapest", "cost", "()D"⟩ : MethodName)) (z := (⟨"com/example/tourwerk/tourwerk/solve/Cheapest", "cost", "()D"⟩ : MethodName)) hown (mvT hZ (own_k hw 46 rfl)) (mvT hZ (own_k hw 47 rfl)) (notFace_of_selects (args := #[]) (mvT hZ (own_k hw 49 rfl))) (mvT hZ (own_k hw 49 rfl)) (mvT hZ (own_k hw 48 rfl)) (by decide) (backOf (W := 0) (own_cost l Z a0 hw [] b94 (FP.i2d (if kc < (if kb < ka then kb else ka) then kc else (if kb < ka then kb else ka))) T138.heap n0 Z149 P141) hZ (own_k hw 50 rfl) (own_k hw 2 rfl) (by decide) (by decide)) qa162 qc162 (g := (mkF m 181 #[.val (.long x1), .second, .val (.long x2), .second, .val (.long x3), .second, .val (.int y1), .val (.int y2), .val (.int y3), .val (.int pa), .val (.int sa), .val (.int pb), .val (.int sb), .val (.int pc), .val (.int sc), .val (.int ka), .val (.int kb), .val (.int kc), .val (.ref b94), .val (.int (if (if kc < kb then kc else kb) < ka then (if kc < kb then kc else kb) else ka)), .val (.int pa), .val (.int sa)] [(.ref b94)])) rfl hml.symm (Steps.refl _) (argsL := []) (rest := []) (lenOf own_pd6 rfl) rfl (by show 2 * 0 + _ ≤ _; exact Nat.le_of_eq rfl) (hb hby at_181) (fun _ _ => ⟨rfl, e158, (by decide : 1 + 0 ≤ 16), (by decide : 7 + 0 ≤ 128)⟩)
    dsimp only [Pt.U, Pt.locs, Pt.cells, Pt.slots] at X161 l161 y161 z161 st161 hQ161
    subst l161 y161 z161
    obtain ⟨rfl, N161, e161⟩ := hQ161
    have N163 := Fr.app N160 N161
    refine own_tr (T' := T161) (g' := (mkF m 184 #[.val (.long x1), .second, .val (.long x2), .second, .val (.long x3), .second, .val (.int y1), .val (.int y2), .val (.int y3), .val (.int pa), .val (.int sa), .val (.int pb), .val (.int sb), .val (.int pc), .val (.int sc), .val (.int ka), .val (.int kb), .val (.int kc), .val (.ref b94), .val (.int (if (if kc < kb then kc else kb) < ka then (if kc < kb then kc else kb) else ka)), .val (.int pa), .val (.int sa)] [(.double (FP.i2d (if kc < (if kb < ka then kb else ka) then kc else (if kb < ka then kb else ka))))])) st161 ?_
    refine own_st (T' := T161) (g' := (mkF m 196 #[.val (.long x1), .second, .val (.long x2), .second, .val (.long x3), .second, .val (.int y1), .val (.int y2), .val (.int y3), .val (.int pa), .val (.int sa), .val (.int pb), .val (.int sb), .val (.int pc), .val (.int sc), .val (.int ka), .val (.int kb), .val (.int kc), .val (.ref b94), .val (.int (if (if kc < kb then kc else kb) < ka then (if kc < kb then kc else kb) else ka)), .val (.int pa), .val (.int sa)] [(.int (1 : Int32))])) (fun _ kt => XS.iload X161.here hx rfl (hb hby at_184) rfl (XS.i2dS X161.here hx rfl (hb hby at_186) rfl rfl (XS.dcmpS X161.here hx rfl (hb hby at_187) rfl (own_dc _ _ _) (XS.ifNo X161.here hx rfl (hb hby at_188) rfl (XT.ll_ne_f (congrArg Int32.toInt64 (own_mn ka kb kc).symm)) (XS.iconst X161.here hx rfl (hb hby at_191) (XS.goto X161.here hx rfl (pc0 := 192) (pc' := 196) rfl (hb hby at_192) (by decide) (by decide) kt)))))) ?_
    obtain ⟨fs, hr, hrun, hended, hW, hsame⟩ := X161.leave (v := some (.int (1 : Int32))) (fun h => by rw [Bd.returns] at h; cases h)
    refine own_end (retN X161 hx (t := .boolean) Bd.returns (by simp) (hb hby at_196) hr) ⟨_, hrun, hended, _, _, rfl, ?_, ⟨_, rfl⟩, hW, hsame.mono (by decide) (by decide)⟩
    show own_lawQ Z x1 x2 x3 y1 y2 y3 h0 n0 _ T161.heap _
    rw [e161]
    exact ⟨rfl, N163⟩
  · -- pc 119: not ka = (if (if kc < kb then kc else kb) < ka then (if kc < kb then kc else kb) else ka)
    refine own_st (T' := T152) (g' := (mkF m 137 #[.val (.long x1), .second, .val (.long x2), .second, .val (.long x3), .second, .val (.int y1), .val (.int y2), .val (.int y3), .val (.int pa), .val (.int sa), .val (.int pb), .val (.int sb), .val (.int pc), .val (.int sc), .val (.int ka), .val (.int kb), .val (.int kc), .val (.ref b94), .val (.int (if (if kc < kb then kc else kb) < ka then (if kc < kb then kc else kb) else ka)), .unset, .unset] [(.int (if (if kc < kb then kc else kb) < ka then (if kc < kb then kc else kb) else ka)), (.int kb)])) (fun _ kt => XS.icmpYes X152.here hx rfl (pc0 := 119) (pc' := 133) rfl (hb hby at_119) rfl (XT.ii_ne_t hc154) (by decide) (by decide) (XS.iload X152.here hx rfl (hb hby at_133) rfl (XS.iload X152.here hx rfl (hb hby at_135) rfl kt))) ?_
    by_cases hc164 : kb = (if (if kc < kb then kc else kb) < ka then (if kc < kb then kc else kb) else ka)
    · -- pc 137: kb = (if (if kc < kb then kc else kb) < ka then (if kc < kb then kc else kb) else ka)
      refine own_st (T' := T152) (g' := (mkF m 161 #[.val (.long x1), .second, .val (.long x2), .second, .val (.long x3), .second, .val (.int y1), .val (.int y2), .val (.int y3), .val (.int pa), .val (.int sa), .val (.int pb), .val (.int sb), .val (.int pc), .val (.int sc), .val (.int ka), .val (.int kb), .val (.int kc), .val (.ref b94), .val (.int (if (if kc < kb then kc else kb) < ka then (if kc < kb then kc else kb) else ka)), .val (.int pb), .val (.int sb)] [(.ref b94)])) (fun _ kt => XS.icmpNo X152.here hx rfl (hb hby at_137) rfl (XT.ii_ne_f hc164) (XS.iload X152.here hx rfl (hb hby at_140) rfl (XS.istore X152.here hx rfl (hb hby at_142) rfl (l' := #[.val (.long x1), .second, .val (.long x2), .second, .val (.long x3), .second, .val (.int y1), .val (.int y2), .val (.int y3), .val (.int pa), .val (.int sa), .val (.int pb), .val (.int sb), .val (.int pc), .val (.int sc), .val (.int ka), .val (.int kb), .val (.int kc), .val (.ref b94), .val (.int (if (if kc < kb then kc else kb) < ka then (if kc < kb then kc else kb) else ka)), .val (.int pb), .unset]) rfl (XS.iload X152.here hx rfl (hb hby at_144) rfl (XS.istore X152.here hx rfl (hb hby at_146) rfl (l' := #[.val (.long x1), .second, .val (.long x2), .second, .val (.long x3), .second, .val (.int y1), .val (.int y2), .val (.int y3), .val (.int pa), .val (.int sa), .val (.int pb), .val (.int sb), .val (.int pc), .val (.int sc), .val (.int ka), .val (.int kb), .val (.int kc), .val (.ref b94), .val (.int (if (if kc < kb then kc else kb) < ka then (if kc < kb then kc else kb) else ka)), .val (.int pb), .val (.int sb)]) rfl (XS.goto X152.here hx rfl (pc0 := 148) (pc' := 159) rfl (hb hby at_148) (by decide) (by decide) (XS.aload X152.here hx rfl (hb hby at_159) rfl rfl kt))))))) ?_
      obtain ⟨cq166, kq166, qa166, qb166, qc166⟩ := isOf hZ e152 P140
      obtain ⟨_, _, ⟨T165, L165, k165, n165⟩, -, X165, ⟨Lc165, hQ165, l165, y165, z165⟩, st165⟩ := X152.virtualBack hx (y := (⟨"com/example/tourwerk/tourwerk/solve/Cheapest", "position", "()I"⟩ : MethodName)) (z := (⟨"com/example/tourwerk/tourwerk/solve/Cheapest", "position", "()I"⟩ : MethodName)) hown (mvT hZ (own_k hw 36 rfl)) (mvT hZ (own_k hw 37 rfl)) (notFace_of_selects (args := #[]) (mvT hZ (own_k hw 39 rfl))) (mvT hZ (own_k hw 39 rfl)) (mvT hZ (own_k hw 38 rfl)) (by decide) (backOf (W := 0) (own_pos l Z a0 hw [] b94 (if kc < (if kb < ka then kb else ka) then pc else (if kb < ka then pb else pa)) T138.heap n0 Z149 P146) hZ (own_k hw 40 rfl) (own_k hw 2 rfl) (by decide) (by decide)) qa166 qc166 (g := (mkF m 161 #[.val (.long x1), .second, .val (.long x2), .second, .val (.long x3), .second, .val (.int y1), .val (.int y2), .val (.int y3), .val (.int pa), .val (.int sa), .val (.int pb), .val (.int sb), .val (.int pc), .val (.int sc), .val (.int ka), .val (.int kb), .val (.int kc), .val (.ref b94), .val (.int (if (if kc < kb then kc else kb) < ka then (if kc < kb then kc else kb) else ka)), .val (.int pb), .val (.int sb)] [(.ref b94)])) rfl hml.symm (Steps.refl _) (argsL := []) (rest := []) (lenOf own_pd5 rfl) rfl (by show 2 * 0 + _ ≤ _; exact Nat.le_of_eq rfl) (hb hby at_161) (fun _ _ => ⟨rfl, e152, (by decide : 1 + 0 ≤ 16), (by decide : 7 + 0 ≤ 128)⟩)
      dsimp only [Pt.U, Pt.locs, Pt.cells, Pt.slots] at X165 l165 y165 z165 st165 hQ165
      subst l165 y165 z165
      obtain ⟨rfl, N165, e165⟩ := hQ165
      have N167 := Fr.app N153 N165
      refine own_tr (T' := T165) (g' := (mkF m 164 #[.val (.long x1), .second, .val (.long x2), .second, .val (.long x3), .second, .val (.int y1), .val (.int y2), .val (.int y3), .val (.int pa), .val (.int sa), .val (.int pb), .val (.int sb), .val (.int pc), .val (.int sc), .val (.int ka), .val (.int kb), .val (.int kc), .val (.ref b94), .val (.int (if (if kc < kb then kc else kb) < ka then (if kc < kb then kc else kb) else ka)), .val (.int pb), .val (.int sb)] [(.int (if kc < (if kb < ka then kb else ka) then pc else (if kb < ka then pb else pa)))])) st165 ?_
      refine own_st (T' := T165) (g' := (mkF m 171 #[.val (.long x1), .second, .val (.long x2), .second, .val (.long x3), .second, .val (.int y1), .val (.int y2), .val (.int y3), .val (.int pa), .val (.int sa), .val (.int pb), .val (.int sb), .val (.int pc), .val (.int sc), .val (.int ka), .val (.int kb), .val (.int kc), .val (.ref b94), .val (.int (if (if kc < kb then kc else kb) < ka then (if kc < kb then kc else kb) else ka)), .val (.int pb), .val (.int sb)] [(.ref b94)])) (fun _ kt => XS.iload X165.here hx rfl (hb hby at_164) rfl (XS.icmpNo X165.here hx rfl (hb hby at_166) rfl (XT.ii_ne_f (own_q2 _ _ _ hc154 hc164)) (XS.aload X165.here hx rfl (hb hby at_169) rfl rfl kt))) ?_
      obtain ⟨cq169, kq169, qa169, qb169, qc169⟩ := isOf hZ e165 P140
      obtain ⟨_, _, ⟨T168, L168, k168, n168⟩, -, X168, ⟨Lc168, hQ168, l168, y168, z168⟩, st168⟩ := X165.virtualBack hx (y := (⟨"com/example/tourwerk/tourwerk/solve/Cheapest", "secondPosition", "()I"⟩ : MethodName)) (z := (⟨"com/example/tourwerk/tourwerk/solve/Cheapest", "secondPosition", "()I"⟩ : MethodName)) hown (mvT hZ (own_k hw 41 rfl)) (mvT hZ (own_k hw 42 rfl)) (notFace_of_selects (args := #[]) (mvT hZ (own_k hw 44 rfl))) (mvT hZ (own_k hw 44 rfl)) (mvT hZ (own_k hw 43 rfl)) (by decide) (backOf (W := 0) (own_sec l Z a0 hw [] b94 (if kc < (if kb < ka then kb else ka) then sc else (if kb < ka then sb else sa)) T138.heap n0 Z149 P147) hZ (own_k hw 45 rfl) (own_k hw 2 rfl) (by decide) (by decide)) qa169 qc169 (g := (mkF m 171 #[.val (.long x1), .second, .val (.long x2), .second, .val (.long x3), .second, .val (.int y1), .val (.int y2), .val (.int y3), .val (.int pa), .val (.int sa), .val (.int pb), .val (.int sb), .val (.int pc), .val (.int sc), .val (.int ka), .val (.int kb), .val (.int kc), .val (.ref b94), .val (.int (if (if kc < kb then kc else kb) < ka then (if kc < kb then kc else kb) else ka)), .val (.int pb), .val (.int sb)] [(.ref b94)])) rfl hml.symm (Steps.refl _) (argsL := []) (rest := []) (lenOf own_pd5 rfl) rfl (by show 2 * 0 + _ ≤ _; exact Nat.le_of_eq rfl) (hb hby at_171) (fun _ _ => ⟨rfl, e165, (by decide : 1 + 0 ≤ 16), (by decide : 7 + 0 ≤ 128)⟩)
      dsimp only [Pt.U, Pt.locs, Pt.cells, Pt.slots] at X168 l168 y168 z168 st168 hQ168
      subst l168 y168 z168
      obtain ⟨rfl, N168, e168⟩ := hQ168
      have N170 := Fr.app N167 N168
      refine own_tr (T' := T168) (g' := (mkF m 174 #[.val (.long x1), .second, .val (.long x2), .second, .val (.long x3), .second, .val (.int y1), .val (.int y2), .val (.int y3), .val (.int pa), .val (.int sa), .val (.int pb), .val (.int sb), .val (.int pc), .val (.int sc), .val (.int ka), .val (.int kb), .val (.int kc), .val (.ref b94), .val (.int (if (if kc < kb then kc else kb) < ka then (if kc < kb then kc else kb) else ka)), .val (.int pb), .val (.int sb)] [(.int (if kc < (if kb < ka then kb else ka) then sc else (if kb < ka then sb else sa)))])) st168 ?_
      refine own_st (T' := T168) (g' := (mkF m 181 #[.val (.long x1), .second, .val (.long x2), .second, .val (.long x3), .second, .val (.int y1), .val (.int y2), .val (.int y3), .val (.int pa), .val (.int sa), .val (.int pb), .val (.int sb), .val (.int pc), .val (.int sc), .val (.int ka), .val (.int kb), .val (.int kc), .val (.ref b94), .val (.int (if (if kc < kb then kc else kb) < ka then (if kc < kb then kc else kb) else ka)), .val (.int pb), .val (.int sb)] [(.ref b94)])) (fun _ kt => XS.iload X168.here hx rfl (hb hby at_174) rfl (XS.icmpNo X168.here hx rfl (hb hby at_176) rfl (XT.ii_ne_f (own_q2 _ _ _ hc154 hc164)) (XS.aload X168.here hx rfl (hb hby at_179) rfl rfl kt))) ?_
      obtain ⟨cq172, kq172, qa172, qb172, qc172⟩ := isOf hZ e168 P140
      obtain ⟨_, _, ⟨T171, L171, k171, n171⟩, -, X171, ⟨Lc171, hQ171, l171, y171, z171⟩, st171⟩ := X168.virtualBack hx (y := (⟨"com/example/tourwerk/tourwerk/solve/Cheapest", "cost", "()D"⟩ : MethodName)) (z := (⟨"com/example/tourwerk/tourwerk/solve/Cheapest", "cost", "()D"⟩ : MethodName)) hown (mvT hZ (own_k hw 46 rfl)) (mvT hZ (own_k hw 47 rfl)) (notFace_of_selects (args := #[]) (mvT hZ (own_k hw 49 rfl))) (mvT hZ (own_k hw 49 rfl)) (mvT hZ (own_k hw 48 rfl)) (by decide) (backOf (W := 0) (own_cost l Z a0 hw [] b94 (FP.i2d (if kc < (if kb < ka then kb else ka) then kc else (if kb < ka then kb else ka))) T138.heap n0 Z149 P141) hZ (own_k hw 50 rfl) (own_k hw 2 rfl) (by decide) (by decide)) qa172 qc172 (g := (mkF m 181 #[.val (.long x1), .second, .val (.long x2), .second, .val (.long x3), .second, .val (.int y1), .val (.int y2), .val (.int y3), .val (.int pa), .val (.int sa), .val (.int pb), .val (.int sb), .val (.int pc), .val (.int sc), .val (.int ka), .val (.int kb), .val (.int kc), .val (.ref b94), .val (.int (if (if kc < kb then kc else kb) < ka then (if kc < kb then kc else kb) else ka)), .val (.int pb), .val (.int sb)] [(.ref b94)])) rfl hml.symm (Steps.refl _) (argsL := []) (rest := []) (lenOf own_pd6 rfl) rfl (by show 2 * 0 + _ ≤ _; exact Nat.le_of_eq rfl) (hb hby at_181) (fun _ _ => ⟨rfl, e168, (by decide : 1 + 0 ≤ 16), (by decide : 7 + 0 ≤ 128)⟩)
      dsimp only [Pt.U, Pt.locs, Pt.cells, Pt.slots] at X171 l171 y171 z171 st171 hQ171
      subst l171 y171 z171
      obtain ⟨rfl, N171, e171⟩ := hQ171
      have N173 := Fr.app N170 N171
      refine own_tr (T' := T171) (g' := (mkF m 184 #[.val (.long x1), .second, .val (.long x2), .second, .val (.long x3), .second, .val (.int y1), .val (.int y2), .val (.int y3), .val (.int pa), .val (.int sa), .val (.int pb), .val (.int sb), .val (.int pc), .val (.int sc), .val (.int ka), .val (.int kb), .val (.int kc), .val (.ref b94), .val (.int (if (if kc < kb then kc else kb) < ka then (if kc < kb then kc else kb) else ka)), .val (.int pb), .val (.int sb)] [(.double (FP.i2d (if kc < (if kb < ka then kb else ka) then kc else (if kb < ka then kb else ka))))])) st171 ?_
      refine own_st (T' := T171) (g' := (mkF m 196 #[.val (.long x1), .second, .val (.long x2), .second, .val (.long x3), .second, .val (.int y1), .val (.int y2), .val (.int y3), .val (.int pa), .val (.int sa), .val (.int pb), .val (.int sb), .val (.int pc), .val (.int sc), .val (.int ka), .val (.int kb), .val (.int kc), .val (.ref b94), .val (.int (if (if kc < kb then kc else kb) < ka then (if kc < kb then kc else kb) else ka)), .val (.int pb), .val (.int sb)] [(.int (1 : Int32))])) (fun _ kt => XS.iload X171.here hx rfl (hb hby at_184) rfl (XS.i2dS X171.here hx rfl (hb hby at_186) rfl rfl (XS.dcmpS X171.here hx rfl (hb hby at_187) rfl (own_dc _ _ _) (XS.ifNo X171.here hx rfl (hb hby at_188) rfl (XT.ll_ne_f (congrArg Int32.toInt64 (own_mn ka kb kc).symm)) (XS.iconst X171.here hx rfl (hb hby at_191) (XS.goto X171.here hx rfl (pc0 := 192) (pc' := 196) rfl (hb hby at_192) (by decide) (by decide) kt)))))) ?_
      obtain ⟨fs, hr, hrun, hended, hW, hsame⟩ := X171.leave (v := some (.int (1 : Int32))) (fun h => by rw [Bd.returns] at h; cases h)
      refine own_end (retN X171 hx (t := .boolean) Bd.returns (by simp) (hb hby at_196) hr) ⟨_, hrun, hended, _, _, rfl, ?_, ⟨_, rfl⟩, hW, hsame.mono (by decide) (by decide)⟩
      show own_lawQ Z x1 x2 x3 y1 y2 y3 h0 n0 _ T171.heap _
      rw [e171]
      exact ⟨rfl, N173⟩
    · -- pc 137: not kb = (if (if kc < kb then kc else kb) < ka then (if kc < kb then kc else kb) else ka)
      refine own_st (T' := T152) (g' := (mkF m 161 #[.val (.long x1), .second, .val (.long x2), .second, .val (.long x3), .second, .val (.int y1), .val (.int y2), .val (.int y3), .val (.int pa), .val (.int sa), .val (.int pb), .val (.int sb), .val (.int pc), .val (.int sc), .val (.int ka), .val (.int kb), .val (.int kc), .val (.ref b94), .val (.int (if (if kc < kb then kc else kb) < ka then (if kc < kb then kc else kb) else ka)), .val (.int pc), .val (.int sc)] [(.ref b94)])) (fun _ kt => XS.icmpYes X152.here hx rfl (pc0 := 137) (pc' := 151) rfl (hb hby at_137) rfl (XT.ii_ne_t hc164) (by decide) (by decide) (XS.iload X152.here hx rfl (hb hby at_151) rfl (XS.istore X152.here hx rfl (hb hby at_153) rfl (l' := #[.val (.long x1), .second, .val (.long x2), .second, .val (.long x3), .second, .val (.int y1), .val (.int y2), .val (.int y3), .val (.int pa), .val (.int sa), .val (.int pb), .val (.int sb), .val (.int pc), .val (.int sc), .val (.int ka), .val (.int kb), .val (.int kc), .val (.ref b94), .val (.int (if (if kc < kb then kc else kb) < ka then (if kc < kb then kc else kb) else ka)), .val (.int pc), .unset]) rfl (XS.iload X152.here hx rfl (hb hby at_155) rfl (XS.istore X152.here hx rfl (hb hby at_157) rfl (l' := #[.val (.long x1), .second, .val (.long x2), .second, .val (.long x3), .second, .val (.int y1), .val (.int y2), .val (.int y3), .val (.int pa), .val (.int sa), .val (.int pb), .val (.int sb), .val (.int pc), .val (.int sc), .val (.int ka), .val (.int kb), .val (.int kc), .val (.ref b94), .val (.int (if (if kc < kb then kc else kb) < ka then (if kc < kb then kc else kb) else ka)), .val (.int pc), .val (.int sc)]) rfl (XS.aload X152.here hx rfl (hb hby at_159) rfl rfl kt)))))) ?_
      obtain ⟨cq175, kq175, qa175, qb175, qc175⟩ := isOf hZ e152 P140
      obtain ⟨_, _, ⟨T174, L174, k174, n174⟩, -, X174, ⟨Lc174, hQ174, l174, y174, z174⟩, st174⟩ := X152.virtualBack hx (y := (⟨"com/example/tourwerk/tourwerk/solve/Cheapest", "position", "()I"⟩ : MethodName)) (z := (⟨"com/example/tourwerk/tourwerk/solve/Cheapest", "position", "()I"⟩ : MethodName)) hown (mvT hZ (own_k hw 36 rfl)) (mvT hZ (own_k hw 37 rfl)) (notFace_of_selects (args := #[]) (mvT hZ (own_k hw 39 rfl))) (mvT hZ (own_k hw 39 rfl)) (mvT hZ (own_k hw 38 rfl)) (by decide) (backOf (W := 0) (own_pos l Z a0 hw [] b94 (if kc < (if kb < ka then kb else ka) then pc else (if kb < ka then pb else pa)) T138.heap n0 Z149 P146) hZ (own_k hw 40 rfl) (own_k hw 2 rfl) (by decide) (by decide)) qa175 qc175 (g := (mkF m 161 #[.val (.long x1), .second, .val (.long x2), .second, .val (.long x3), .second, .val (.int y1), .val (.int y2), .val (.int y3), .val (.int pa), .val (.int sa), .val (.int pb), .val (.int sb), .val (.int pc), .val (.int sc), .val (.int ka), .val (.int kb), .val (.int kc), .val (.ref b94), .val (.int (if (if kc < kb then kc else kb) < ka then (if kc < kb then kc else kb) else ka)), .val (.int pc), .val (.int sc)] [(.ref b94)])) rfl hml.symm (Steps.refl _) (argsL := []) (rest := []) (lenOf own_pd5 rfl) rfl (by show 2 * 0 + _ ≤ _; exact Nat.le_of_eq rfl) (hb hby at_161) (fun _ _ => ⟨rfl, e152, (by decide : 1 + 0 ≤ 16), (by decide : 7 + 0 ≤ 128)⟩)
      dsimp only [Pt.U, Pt.locs, Pt.cells, Pt.slots] at X174 l174 y174 z174 st174 hQ174
      subst l174 y174 z174
      obtain ⟨rfl, N174, e174⟩ := hQ174
      have N176 := Fr.app N153 N174
      refine own_tr (T' := T174) (g' := (mkF m 164 #[.val (.long x1), .second, .val (.long x2), .second, .val (.long x3), .second, .val (.int y1), .val (.int y2), .val (.int y3), .val (.int pa), .val (.int sa), .val (.int pb), .val (.int sb), .val (.int pc), .val (.int sc), .val (.int ka), .val (.int kb), .val (.int kc), .val (.ref b94), .val (.int (if (if kc < kb then kc else kb) < ka then (if kc < kb then kc else kb) else ka)), .val (.int pc), .val (.int sc)] [(.int (if kc < (if kb < ka then kb else ka) then pc else (if kb < ka then pb else pa)))])) st174 ?_
      refine own_st (T' := T174) (g' := (mkF m 171 #[.val (.long x1), .second, .val (.long x2), .second, .val (.long x3), .second, .val (.int y1), .val (.int y2), .val (.int y3), .val (.int pa), .val (.int sa), .val (.int pb), .val (.int sb), .val (.int pc), .val (.int sc), .val (.int ka), .val (.int kb), .val (.int kc), .val (.ref b94), .val (.int (if (if kc < kb then kc else kb) < ka then (if kc < kb then kc else kb) else ka)), .val (.int pc), .val (.int sc)] [(.ref b94)])) (fun _ kt => XS.iload X174.here hx rfl (hb hby at_164) rfl (XS.icmpNo X174.here hx rfl (hb hby at_166) rfl (XT.ii_ne_f (own_q3 _ _ _ hc154 hc164)) (XS.aload X174.here hx rfl (hb hby at_169) rfl rfl kt))) ?_
      obtain ⟨cq178, kq178, qa178, qb178, qc178⟩ := isOf hZ e174 P140
      obtain ⟨_, _, ⟨T177, L177, k177, n177⟩, -, X177, ⟨Lc177, hQ177, l177, y177, z177⟩, st177⟩ := X174.virtualBack hx (y := (⟨"com/example/tourwerk/tourwerk/solve/Cheapest", "secondPosition", "()I"⟩ : MethodName)) (z := (⟨"com/example/tourwerk/tourwerk/solve/Cheapest", "secondPosition", "()I"⟩ : MethodName)) hown (mvT hZ (own_k hw 41 rfl)) (mvT hZ (own_k hw 42 rfl)) (notFace_of_selects (args := #[]) (mvT hZ (own_k hw 44 rfl))) (mvT hZ (own_k hw 44 rfl)) (mvT hZ (own_k hw 43 rfl)) (by decide) (backOf (W := 0) (own_sec l Z a0 hw [] b94 (if kc < (if kb < ka then kb else ka) then sc else (if kb < ka then sb else sa)) T138.heap n0 Z149 P147) hZ (own_k hw 45 rfl) (own_k hw 2 rfl) (by decide) (by decide)) qa178 qc178 (g := (mkF m 171 #[.val (.long x1), .second, .val (.long x2), .second, .val (.long x3), .second, .val (.int y1), .val (.int y2), .val (.int y3), .val (.int pa), .val (.int sa), .val (.int pb), .val (.int sb), .val (.int pc), .val (.int sc), .val (.int ka), .val (.int kb), .val (.int kc), .val (.ref b94), .val (.int (if (if kc < kb then kc else kb) < ka then (if kc < kb then kc else kb) else ka)), .val (.int pc), .val (.int sc)] [(.ref b94)])) rfl hml.symm (Steps.refl _) (argsL := []) (rest := []) (lenOf own_pd5 rfl) rfl (by show 2 * 0 + _ ≤ _; exact Nat.le_of_eq rfl) (hb hby at_171) (fun _ _ => ⟨rfl, e174, (by decide : 1 + 0 ≤ 16), (by decide : 7 + 0 ≤ 128)⟩)
      dsimp only [Pt.U, Pt.locs, Pt.cells, Pt.slots] at X177 l177 y177 z177 st177 hQ177
      subst l177 y177 z177
      obtain ⟨rfl, N177, e177⟩ := hQ177
      have N179 := Fr.app N176 N177
      refine own_tr (T' := T177) (g' := (mkF m 174 #[.val (.long x1), .second, .val (.long x2), .second, .val (.long x3), .second, .val (.int y1), .val (.int y2), .val (.int y3), .val (.int pa), .val (.int sa), .val (.int pb), .val (.int sb), .val (.int pc), .val (.int sc), .val (.int ka), .val (.int kb), .val (.int kc), .val (.ref b94), .val (.int (if (if kc < kb then kc else kb) < ka then (if kc < kb then kc else kb) else ka)), .val (.int pc), .val (.int sc)] [(.int (if kc < (if kb < ka then kb else ka) then sc else (if kb < ka then sb else sa)))])) st177 ?_
      refine own_st (T' := T177) (g' := (mkF m 181 #[.val (.long x1), .second, .val (.long x2), .second, .val (.long x3), .second, .val (.int y1), .val (.int y2), .val (.int y3), .val (.int pa), .val (.int sa), .val (.int pb), .val (.int sb), .val (.int pc), .val (.int sc), .val (.int ka), .val (.int kb), .val (.int kc), .val (.ref b94), .val (.int (if (if kc < kb then kc else kb) < ka then (if kc < kb then kc else kb) else ka)), .val (.int pc), .val (.int sc)] [(.ref b94)])) (fun _ kt => XS.iload X177.here hx rfl (hb hby at_174) rfl (XS.icmpNo X177.here hx rfl (hb hby at_176) rfl (XT.ii_ne_f (own_q3 _ _ _ hc154 hc164)) (XS.aload X177.here hx rfl (hb hby at_179) rfl rfl kt))) ?_
      obtain ⟨cq181, kq181, qa181, qb181, qc181⟩ := isOf hZ e177 P140
      obtain ⟨_, _, ⟨T180, L180, k180, n180⟩, -, X180, ⟨Lc180, hQ180, l180, y180, z180⟩, st180⟩ := X177.virtualBack hx (y := (⟨"com/example/tourwerk/tourwerk/solve/Cheapest", "cost", "()D"⟩ : MethodName)) (z := (⟨"com/example/tourwerk/tourwerk/solve/Cheapest", "cost", "()D"⟩ : MethodName)) hown (mvT hZ (own_k hw 46 rfl)) (mvT hZ (own_k hw 47 rfl)) (notFace_of_selects (args := #[]) (mvT hZ (own_k hw 49 rfl))) (mvT hZ (own_k hw 49 rfl)) (mvT hZ (own_k hw 48 rfl)) (by decide) (backOf (W := 0) (own_cost l Z a0 hw [] b94 (FP.i2d (if kc < (if kb < ka then kb else ka) then kc else (if kb < ka then kb else ka))) T138.heap n0 Z149 P141) hZ (own_k hw 50 rfl) (own_k hw 2 rfl) (by decide) (by decide)) qa181 qc181 (g := (mkF m 181 #[.val (.long x1), .second, .val (.long x2), .second, .val (.long x3), .second, .val (.int y1), .val (.int y2), .val (.int y3), .val (.int pa), .val (.int sa), .val (.int pb), .val (.int sb), .val (.int pc), .val (.int sc), .val (.int ka), .val (.int kb), .val (.int kc), .val (.ref b94), .val (.int (if (if kc < kb then kc else kb) < ka then (if kc < kb then kc else kb) else ka)), .val (.int pc), .val (.int sc)] [(.ref b94)])) rfl hml.symm (Steps.refl _) (argsL := []) (rest := []) (lenOf own_pd6 rfl) rfl (by show 2 * 0 + _ ≤ _; exact Nat.le_of_eq rfl) (hb hby at_181) (fun _ _ => ⟨rfl, e177, (by decide : 1 + 0 ≤ 16), (by decide : 7 + 0 ≤ 128)⟩)
      dsimp only [Pt.U, Pt.locs, Pt.cells, Pt.slots] at X180 l180 y180 z180 st180 hQ180
      subst l180 y180 z180
      obtain ⟨rfl, N180, e180⟩ := hQ180
      have N182 := Fr.app N179 N180
      refine own_tr (T' := T180) (g' := (mkF m 184 #[.val (.long x1), .second, .val (.long x2), .second, .val (.long x3), .second, .val (.int y1), .val (.int y2), .val (.int y3), .val (.int pa), .val (.int sa), .val (.int pb), .val (.int sb), .val (.int pc), .val (.int sc), .val (.int ka), .val (.int kb), .val (.int kc), .val (.ref b94), .val (.int (if (if kc < kb then kc else kb) < ka then (if kc < kb then kc else kb) else ka)), .val (.int pc), .val (.int sc)] [(.double (FP.i2d (if kc < (if kb < ka then kb else ka) then kc else (if kb < ka then kb else ka))))])) st180 ?_
      refine own_st (T' := T180) (g' := (mkF m 196 #[.val (.long x1), .second, .val (.long x2), .second, .val (.long x3), .second, .val (.int y1), .val (.int y2), .val (.int y3), .val (.int pa), .val (.int sa), .val (.int pb), .val (.int sb), .val (.int pc), .val (.int sc), .val (.int ka), .val (.int kb), .val (.int kc), .val (.ref b94), .val (.int (if (if kc < kb then kc else kb) < ka then (if kc < kb then kc else kb) else ka)), .val (.int pc), .val (.int sc)] [(.int (1 : Int32))])) (fun _ kt => XS.iload X180.here hx rfl (hb hby at_184) rfl (XS.i2dS X180.here hx rfl (hb hby at_186) rfl rfl (XS.dcmpS X180.here hx rfl (hb hby at_187) rfl (own_dc _ _ _) (XS.ifNo X180.here hx rfl (hb hby at_188) rfl (XT.ll_ne_f (congrArg Int32.toInt64 (own_mn ka kb kc).symm)) (XS.iconst X180.here hx rfl (hb hby at_191) (XS.goto X180.here hx rfl (pc0 := 192) (pc' := 196) rfl (hb hby at_192) (by decide) (by decide) kt)))))) ?_
      obtain ⟨fs, hr, hrun, hended, hW, hsame⟩ := X180.leave (v := some (.int (1 : Int32))) (fun h => by rw [Bd.returns] at h; cases h)
      refine own_end (retN X180 hx (t := .boolean) Bd.returns (by simp) (hb hby at_196) hr) ⟨_, hrun, hended, _, _, rfl, ?_, ⟨_, rfl⟩, hW, hsame.mono (by decide) (by decide)⟩
      show own_lawQ Z x1 x2 x3 y1 y2 y3 h0 n0 _ T180.heap _
      rw [e180]
      exact ⟨rfl, N182⟩
set_option maxRecDepth 65536 in
set_option maxHeartbeats 40000000 in
theorem comes_1 {Post : Tables → Env → Array Value → State → Outcome → State → Prop} (hpost : ∀ tb e args s v u, (limb_1_1.after args s (.returned v) u = true ∧ limb_1_2.after args s (.returned v) u = true ∧ True) → FrameEnd s (.returned v) u (Jvm.fieldLocs frame_1_writes args s ++ Jvm.arrayLocs frame_1_arrays args s ++ Jvm.staticLocs frame_1_statics s) 16 128 → Post tb e args s (.returned v) u) :
    ArmFor flags0 classFile x code maxLocals ret World_1 tables_1 room_1 Calls_1 rest_1 Pre_1 Post := by
  intro l hfl _ _ p e ha hc hk s m args below hf hA hF happ hP
  obtain ⟨hcalls, hrest, hpre⟩ := hP
  obtain ⟨-, -, -, hnamed, -, -, -, hat⟩ := (Spec.applies_iff hf).mp happ
  obtain ⟨hg, hn⟩ := and_e (Cond.before_iff.mp (show (Jvm.Cond.and given_1 narrow_1).before args s = true from hpre))
  obtain ⟨g0, hg⟩ := and_e hg
  obtain ⟨g1, hg⟩ := and_e hg
  obtain ⟨g2, hg⟩ := and_e hg
  obtain ⟨g3, hg⟩ := and_e hg
  obtain ⟨g4, hg⟩ := and_e hg
  obtain ⟨g5, hg⟩ := and_e hg
  obtain ⟨w0, w1, w2, w3, w4, w5, rfl⟩ : ∃ w0 w1 w2 w3 w4 w5 : Value, args = #[w0, w1, w2, w3, w4, w5] := by
    have hs : args.size = 6 := by simpa [Cond.value, given_1] using g0
    obtain ⟨L⟩ := args
    match L, hs with
    | [w0, w1, w2, w3, w4, w5], _ => exact ⟨w0, w1, w2, w3, w4, w5, rfl⟩
  have hw := fun d (hd : d ∈ tables_1) => atoms_spec (ws := Jvm.Cond.code x code maxLocals ret :: tables_1) hat d (List.mem_cons_of_mem _ hd)
  have hfit : Fit s := fun {y c} hc i hi => by
    obtain ⟨ha, rfl⟩ := Array.getElem?_eq_some_iff.mp hc
    have q := List.all_eq_true.mp ((Array.all_eq_true_iff_forall_mem.mp hF) _ (Array.getElem_mem ha)) i (List.mem_range.mpr hi)
    simpa [Array.getElem?_eq_getElem hi] using q
  obtain ⟨i0, e0⟩ := isL_v g1
  obtain rfl : w0 = (.long i0) := Option.some.inj e0
  obtain ⟨i1, e1⟩ := isL_v g2
  obtain rfl : w1 = (.long i1) := Option.some.inj e1
  obtain ⟨i2, e2⟩ := isL_v g3
  obtain rfl : w2 = (.long i2) := Option.some.inj e2
  obtain ⟨i3, e3⟩ := is_v g4
  obtain rfl : w3 = (.int i3) := Option.some.inj e3
  obtain ⟨i4, e4⟩ := is_v g5
  obtain rfl : w4 = (.int i4) := Option.some.inj e4
  obtain ⟨i5, e5⟩ := is_v hg
  obtain rfl : w5 = (.int i5) := Option.some.inj e5
  obtain ⟨n, o, h1, h2, h3, _, L, rfl, ⟨rfl, N⟩, hq⟩ := own_law l s _ hw tables_1 i0 i1 i2 i3 i4 i5 s.heap s.heap.size (Nat.le_refl _)  p e ha hc hk s m _ below hf ((Spec.applies_iff_loose hf).mp happ).1 ⟨rfl, State.Warmed39.refl s, rfl⟩ trivial
  refine ⟨n, _, h1, h2, h3, hpost _ _ _ _ _ _ ⟨Cond.after_iff.mpr rfl, Cond.after_iff.mpr (eq_i res_at (Term.int_eval (1)) rfl), trivial⟩ ⟨hq.1, hq.2.1, (hq.2.2.sift fun y hy => Or.inr (N y hy)).mono (by decide) (by decide)⟩⟩
theorem main_1_1 : Claimed_1_1 := comes_1 fun _ _ _ _ _ _ h hF => ⟨h.1, hF⟩
theorem main_1_2 : Claimed_1_2 := comes_1 fun _ _ _ _ _ _ h hF => ⟨h.2.1, hF⟩
end Jvm.Pilot.@@N@@
namespace Jvm.Pilot.@@N@@
open Jvm Jvm.ClassFile Sem Op Lib Jvm.Free Jvm.Stand Jvm.Pilot.@@N@@.Jvm.D
/-! MADE BY PROGRAM (witnessworld.py) out of the Statement's table words and the real class files: 11 classes; the members and pool entries that the words name. The judged class is class 1, her method 1. -/
namespace start1
open Jvm.ClassFile
def u (s : String) : CpInfo := .utf8 (stringToUtf16 s)
/-- a pool by its gaps: so many unusable entries, then the entry; so many at the end -/
def gap : Nat → List CpInfo → List CpInfo
  | 0, r => r
  | n + 1, r => .unusable :: gap n r
def poolList (es : List (Nat × CpInfo)) (last : Nat) : List CpInfo := es.foldr (fun e r => gap e.1 (e.2 :: r)) (gap last [])
def pool (es : List (Nat × CpInfo)) (last : Nat) : Array CpInfo := ⟨poolList es last⟩
def fileOf (pool : Array CpInfo) (this : Nat) (attrs : Array Attribute := #[]) (ms : Array MethodInfo := #[]) (fl : Nat := 33) (sup : Nat := 0) (ifs : Array Nat := #[]) (fds : Array FieldInfo := #[]) : ClassFile where
  minorVersion := 0
  majorVersion := 65
  constantPool := pool
  accessFlags := fl
  thisClass := this
  superClass := sup
  interfaces := ifs
  fields := fds
  methods := ms
  attributes := attrs
def plain (name : String) (sup : Option ClassId) : Class where
  name := name
  kind := .ordinary
  loader := none
  accessFlags := 33
  super := sup
  interfaces := #[]
  cf := none
  fields := #[]
  methods := #[]
  instanceTypes := #[]
  staticTypes := #[]
  resolved := #[]
  callSites := []
  init := .initialized
  statics := none
  mirror := none

def pool0 : Array CpInfo := pool [(5, u "<init>"), (0, u "()V"), (1, .class_ 10), (1, u "java/lang/Object")] 113

def k0c0 : Code := { maxStack := 0, maxLocals := 1, code := object_method_1_code, exceptionTable := #[], attributes := #[] }
def k0m0 : Method := { name := "<init>", desc := "()V", sig := { parameters := [], returnType := none }, accessFlags := 1, code := some k0c0 }
/-- java/lang/Object -/
def k0 : Class := { plain "java/lang/Object" none with
  accessFlags := 33
  interfaces := #[]
  cf := some (fileOf pool0 8 #[] #[{ accessFlags := 1, nameIndex := 5, descriptorIndex := 6, attributes := #[] }] 33 0 #[] #[])
  fields := #[]
  methods := #[k0m0]
  instanceTypes := #[]
  staticTypes := #[]
  resolved := Array.replicate 124 none
  statics := none }

def pool1 : Array CpInfo := pool [(2, .class_ 4), (0, .nameAndType 5 6), (0, u "java/lang/Object"), (0, u "<init>"), (0, u "()V"), (0, .class_ 8), (0, u "com/example/tourwerk/tourwerk/solve/Cheapest"), (0, .methodref 7 3), (0, .methodref 7 11), (0, .nameAndType 12 13), (0, u "offer"), (0, u "(IID)V"), (0, .methodref 15 16), (0, .class_ 17), (0, .nameAndType 18 19), (0, u "java/lang/Math"), (0, u "min"), (0, u "(II)I"), (0, .methodref 7 21), (0, .nameAndType 22 23), (0, u "position"), (0, u "()I"), (0, .methodref 7 25), (0, .nameAndType 26 23), (0, u "secondPosition"), (0, .methodref 7 28), (0, .nameAndType 29 30), (0, u "cost"), (0, u "()D"), (0, .class_ 32), (0, u "com/example/tourwerk/tourwerk/solve/CheapestOfferPinLaw"), (2, u "law"), (0, u "(JJJIII)Z")] 3

def k1m0 : Method := { name := "<init>", desc := "()V", sig := { parameters := [], returnType := none }, accessFlags := 1, code := none }
def k1c1 : Code := { maxStack := 5, maxLocals := 22, code := code, exceptionTable := #[], attributes := #[] }
def k1m1 : Method := { name := "law", desc := "(JJJIII)Z", sig := { parameters := [.long, .long, .long, .int, .int, .int], returnType := some .boolean }, accessFlags := 9, code := some k1c1 }
/-- com/example/tourwerk/tourwerk/solve/CheapestOfferPinLaw -/
def k1 : Class := { plain "com/example/tourwerk/tourwerk/solve/CheapestOfferPinLaw" (some 0) with
  accessFlags := 49
  interfaces := #[]
  cf := some (fileOf pool1 31 #[] #[{ accessFlags := 1, nameIndex := 5, descriptorIndex := 6, attributes := #[] }, { accessFlags := 9, nameIndex := 35, descriptorIndex := 36, attributes := #[] }] 49 2 #[] #[])
  fields := #[]
  methods := #[k1m0, k1m1]
  instanceTypes := #[]
  staticTypes := #[]
  resolved := Array.replicate 40 none
  statics := none }

def pool2 : Array CpInfo := pool [(1, .class_ 2), (0, u "com/example/tourwerk/tourwerk/solve/Route$Places"), (0, .class_ 4), (0, u "java/lang/Object"), (5, .class_ 11), (0, u "com/example/tourwerk/tourwerk/solve/Route")] 2

/-- com/example/tourwerk/tourwerk/solve/Route$Places -/
def k2 : Class := { plain "com/example/tourwerk/tourwerk/solve/Route$Places" (some 0) with
  accessFlags := 1536
  interfaces := #[]
  cf := some (fileOf pool2 1 #[.nestHost 10] #[] 1536 3 #[] #[])
  fields := #[]
  methods := #[]
  instanceTypes := #[]
  staticTypes := #[]
  resolved := Array.replicate 14 none
  statics := none }

def pool3 : Array CpInfo := pool [(1, .methodref 2 3), (0, .class_ 4), (0, .nameAndType 5 6), (0, u "com/example/tourwerk/tourwerk/solve/Cheapest"), (0, u "<init>"), (0, u "(Ljava/util/Random;D)V"), (0, .methodref 8 9), (0, .class_ 10), (0, .nameAndType 5 11), (0, u "java/lang/Object"), (0, u "()V"), (2, .double 9218868437227405312), (1, .fieldref 2 17), (0, .nameAndType 18 19), (0, u "_cost"), (0, u "D"), (0, .fieldref 2 21), (0, .nameAndType 22 23), (0, u "_random"), (0, u "Ljava/util/Random;"), (0, .fieldref 2 25), (0, .nameAndType 26 19), (0, u "_blink"), (6, .fieldref 2 34), (0, .nameAndType 35 36), (0, u "_on"), (0, u "Lcom/example/tourwerk/tourwerk/solve/Route;"), (11, u "()D"), (0, .fieldref 2 50), (0, .nameAndType 51 36), (0, u "_route"), (0, .fieldref 2 53), (0, .nameAndType 54 55), (0, u "_position"), (0, u "I"), (0, .fieldref 2 57), (0, .nameAndType 58 55), (0, u "_secondPosition"), (0, .class_ 60), (0, u "com/example/tourwerk/tourwerk/solve/Route$Places"), (3, u "offer"), (0, u "(IID)V"), (3, u "position"), (0, u "()I"), (0, u "secondPosition"), (0, u "cost")] 4

def k3c0 : Code := { maxStack := 4, maxLocals := 1, code := prog_28_method_1_code, exceptionTable := #[], attributes := #[] }
def k3m0 : Method := { name := "<init>", desc := "()V", sig := { parameters := [], returnType := none }, accessFlags := 0, code := some k3c0 }
def k3c1 : Code := { maxStack := 3, maxLocals := 4, code := prog_28_method_2_code, exceptionTable := #[], attributes := #[] }
def k3m1 : Method := { name := "<init>", desc := "(Ljava/util/Random;D)V", sig := { parameters := [(.object "java/util/Random"), .double], returnType := none }, accessFlags := 0, code := some k3c1 }
def k3c2 : Code := { maxStack := 4, maxLocals := 5, code := prog_28_method_5_code, exceptionTable := #[], attributes := #[] }
def k3m2 : Method := { name := "offer", desc := "(IID)V", sig := { parameters := [.int, .int, .double], returnType := none }, accessFlags := 1, code := some k3c2 }
def k3c3 : Code := { maxStack := 1, maxLocals := 1, code := prog_28_method_7_code, exceptionTable := #[], attributes := #[] }
def k3m3 : Method := { name := "position", desc := "()I", sig := { parameters := [], returnType := some .int }, accessFlags := 0, code := some k3c3 }
def k3c4 : Code := { maxStack := 1, maxLocals := 1, code := prog_28_method_8_code, exceptionTable := #[], attributes := #[] }
def k3m4 : Method := { name := "secondPosition", desc := "()I", sig := { parameters := [], returnType := some .int }, accessFlags := 0, code := some k3c4 }
def k3c5 : Code := { maxStack := 2, maxLocals := 1, code := prog_28_method_9_code, exceptionTable := #[], attributes := #[] }
def k3m5 : Method := { name := "cost", desc := "()D", sig := { parameters := [], returnType := some .double }, accessFlags := 0, code := some k3c5 }
/-- com/example/tourwerk/tourwerk/solve/Cheapest -/
def k3 : Class := { plain "com/example/tourwerk/tourwerk/solve/Cheapest" (some 0) with
  accessFlags := 48
  interfaces := #[2]
  cf := some (fileOf pool3 2 #[] #[{ accessFlags := 0, nameIndex := 5, descriptorIndex := 11, attributes := #[] }, { accessFlags := 0, nameIndex := 5, descriptorIndex := 6, attributes := #[] }, { accessFlags := 1, nameIndex := 64, descriptorIndex := 65, attributes := #[] }, { accessFlags := 0, nameIndex := 69, descriptorIndex := 70, attributes := #[] }, { accessFlags := 0, nameIndex := 71, descriptorIndex := 70, attributes := #[] }, { accessFlags := 0, nameIndex := 72, descriptorIndex := 48, attributes := #[] }] 48 8 #[59] #[{ accessFlags := 18, nameIndex := 22, descriptorIndex := 23, attributes := #[] }, { accessFlags := 18, nameIndex := 26, descriptorIndex := 19, attributes := #[] }, { accessFlags := 2, nameIndex := 35, descriptorIndex := 36, attributes := #[] }, { accessFlags := 2, nameIndex := 51, descriptorIndex := 36, attributes := #[] }, { accessFlags := 2, nameIndex := 54, descriptorIndex := 55, attributes := #[] }, { accessFlags := 2, nameIndex := 58, descriptorIndex := 55, attributes := #[] }, { accessFlags := 2, nameIndex := 18, descriptorIndex := 19, attributes := #[] }])
  fields := #[{ name := "_random", type := (.object "java/util/Random"), accessFlags := 18, slot := 0, constantValue := 0 }, { name := "_blink", type := .double, accessFlags := 18, slot := 1, constantValue := 0 }, { name := "_on", type := (.object "com/example/tourwerk/tourwerk/solve/Route"), accessFlags := 2, slot := 2, constantValue := 0 }, { name := "_route", type := (.object "com/example/tourwerk/tourwerk/solve/Route"), accessFlags := 2, slot := 3, constantValue := 0 }, { name := "_position", type := .int, accessFlags := 2, slot := 4, constantValue := 0 }, { name := "_secondPosition", type := .int, accessFlags := 2, slot := 5, constantValue := 0 }, { name := "_cost", type := .double, accessFlags := 2, slot := 6, constantValue := 0 }]
  methods := #[k3m0, k3m1, k3m2, k3m3, k3m4, k3m5]
  instanceTypes := #[(.object "java/util/Random"), .double, (.object "com/example/tourwerk/tourwerk/solve/Route"), (.object "com/example/tourwerk/tourwerk/solve/Route"), .int, .int, .double]
  staticTypes := #[]
  resolved := Array.replicate 77 none
  statics := none }

def pool4 : Array CpInfo := pool [(1, .class_ 2), (0, u "java/lang/Math"), (1, .class_ 6), (1, u "java/lang/Object"), (0, u "<init>"), (0, u "()V"), (89, .class_ 100), (1, u "java/lang/Math$RandomNumberGeneratorHolder"), (71, u "negativeZeroFloatBits"), (0, u "J"), (2, u "negativeZeroDoubleBits"), (24, u "min"), (43, u "$assertionsDisabled"), (0, u "Z"), (88, u "(II)I"), (2, u "twoToTheDoubleScaleDown"), (0, u "D"), (4, u "twoToTheDoubleScaleUp"), (9, u "E"), (3, u "PI"), (2, u "TAU"), (2, u "DEGREES_TO_RADIANS"), (0, u "RADIANS_TO_DEGREES")] 94

def k4m0 : Method := { name := "<init>", desc := "()V", sig := { parameters := [], returnType := none }, accessFlags := 2, code := none }
def k4c1 : Code := { maxStack := 2, maxLocals := 2, code := jdk_29_method_69_code, exceptionTable := #[], attributes := #[] }
def k4m1 : Method := { name := "min", desc := "(II)I", sig := { parameters := [.int, .int], returnType := some .int }, accessFlags := 9, code := some k4c1 }
/-- java/lang/Math -/
def k4 : Class := { plain "java/lang/Math" (some 0) with
  accessFlags := 49
  interfaces := #[]
  cf := some (fileOf pool4 1 #[.nestMembers #[98]] #[{ accessFlags := 2, nameIndex := 7, descriptorIndex := 8, attributes := #[] }, { accessFlags := 9, nameIndex := 201, descriptorIndex := 335, attributes := #[] }] 49 4 #[] #[{ accessFlags := 25, nameIndex := 354, descriptorIndex := 339, attributes := #[] }, { accessFlags := 25, nameIndex := 358, descriptorIndex := 339, attributes := #[] }, { accessFlags := 25, nameIndex := 361, descriptorIndex := 339, attributes := #[] }, { accessFlags := 26, nameIndex := 364, descriptorIndex := 339, attributes := #[] }, { accessFlags := 26, nameIndex := 365, descriptorIndex := 339, attributes := #[] }, { accessFlags := 26, nameIndex := 172, descriptorIndex := 173, attributes := #[] }, { accessFlags := 26, nameIndex := 176, descriptorIndex := 173, attributes := #[] }, { accessFlags := 8, nameIndex := 344, descriptorIndex := 339, attributes := #[] }, { accessFlags := 8, nameIndex := 338, descriptorIndex := 339, attributes := #[] }, { accessFlags := 4120, nameIndex := 245, descriptorIndex := 246, attributes := #[] }])
  fields := #[{ name := "E", type := .double, accessFlags := 25, slot := 0, constantValue := 0 }, { name := "PI", type := .double, accessFlags := 25, slot := 1, constantValue := 0 }, { name := "TAU", type := .double, accessFlags := 25, slot := 2, constantValue := 0 }, { name := "DEGREES_TO_RADIANS", type := .double, accessFlags := 26, slot := 3, constantValue := 0 }, { name := "RADIANS_TO_DEGREES", type := .double, accessFlags := 26, slot := 4, constantValue := 0 }, { name := "negativeZeroFloatBits", type := .long, accessFlags := 26, slot := 5, constantValue := 0 }, { name := "negativeZeroDoubleBits", type := .long, accessFlags := 26, slot := 6, constantValue := 0 }, { name := "twoToTheDoubleScaleUp", type := .double, accessFlags := 8, slot := 7, constantValue := 0 }, { name := "twoToTheDoubleScaleDown", type := .double, accessFlags := 8, slot := 8, constantValue := 0 }, { name := "$assertionsDisabled", type := .boolean, accessFlags := 4120, slot := 9, constantValue := 0 }]
  methods := #[k4m0, k4m1]
  instanceTypes := #[]
  staticTypes := #[.double, .double, .double, .double, .double, .long, .long, .double, .double, .boolean]
  resolved := Array.replicate 460 none
  statics := none }

def pool5 : Array CpInfo := pool [(1, u "java/lang/Cloneable"), (0, .class_ 1), (0, u "java/lang/Object"), (0, .class_ 3)] 3

/-- java/lang/Cloneable -/
def k5 : Class := { plain "java/lang/Cloneable" (some 0) with
  accessFlags := 1537
  interfaces := #[]
  cf := some (fileOf pool5 2 #[] #[] 1537 4 #[] #[])
  fields := #[]
  methods := #[]
  instanceTypes := #[]
  staticTypes := #[]
  resolved := Array.replicate 8 none
  statics := none }

def pool6 : Array CpInfo := pool [(1, u "java/io/Serializable"), (0, .class_ 1), (0, u "java/lang/Object"), (0, .class_ 3)] 3

/-- java/io/Serializable -/
def k6 : Class := { plain "java/io/Serializable" (some 0) with
  accessFlags := 1537
  interfaces := #[]
  cf := some (fileOf pool6 2 #[] #[] 1537 4 #[] #[])
  fields := #[]
  methods := #[]
  instanceTypes := #[]
  staticTypes := #[]
  resolved := Array.replicate 8 none
  statics := none }

/-- the primitive byte -/
def k7 : Class := { plain "byte" none with kind := .primitive 'B', accessFlags := 0x411 }
/-- [B -/
def k8 : Class := { plain "[B" (some 0) with kind := .array 7 .byte, interfaces := #[5, 6], accessFlags := 1041 }

/-- the primitive int -/
def k9 : Class := { plain "int" none with kind := .primitive 'I', accessFlags := 0x411 }
/-- [I -/
def k10 : Class := { plain "[I" (some 0) with kind := .array 9 .int, interfaces := #[5, 6], accessFlags := 1041 }

def heap : Heap := #[]
def classes : Array Class := #[k0, k1, k2, k3, k4, k5, k6, k7, k8, k9, k10]
def interned : List (Array UInt16 × Addr) := []
def slotsUsed : Nat := 0
def theMethod : MethodId := ⟨1, 1⟩
def args0 : Array Value := #[.long 5, .long 5, .long 5, .int 5, .int 5, .int 5]
def aboutOver (below : List Frame) : State where
  vm := { classes := classes, interned := interned.toArray }
  heap := heap
  slotsUsed := slotsUsed
  threads := #[{ frames := .invoking theMethod args0 :: below }]
def below0 : List Frame := [.native { method := ⟨0, 0⟩, args := #[] }]
def about1 : State := aboutOver below0
def p0 : Program := .bare "" "" ""
def e0 : Env := launch0.env 0 0 0
theorem w_frames : about1.frames = Frame.invoking theMethod args0 :: below0 := rfl
set_option maxRecDepth 65536 in
theorem w_args : argsFit about1.vm theMethod args0 = true := by decide +kernel
set_option maxRecDepth 65536 in
theorem w_heap : heapFits about1 = true := by decide +kernel
set_option maxRecDepth 65536 in
theorem w_runnable : about1.curStatus? = some .runnable := by decide +kernel
set_option maxRecDepth 65536 in
theorem w_alone : about1.alone = true := by decide +kernel
set_option maxRecDepth 65536 in
theorem w_named : about1.methodNamed? x = some theMethod := by decide +kernel
set_option maxRecDepth 65536 in
theorem w_hears : about1.hears theMethod below0 = true := by decide +kernel
set_option maxRecDepth 65536 in
theorem w_ripe : about1.ripe theMethod args0 below0 = true := by decide +kernel
theorem w_running : about1.status = .running := rfl
set_option maxRecDepth 65536 in
theorem w_room : about1.hasRoom e0.platform room_1 = true :=
  launch0.hasRoom_least _ room_1 (by decide +kernel) (by decide +kernel) (by decide +kernel) (by decide +kernel) (by decide +kernel) (by decide +kernel)
theorem allAtoms_all (ts : List Jvm.Cond) (a : Array Jvm.Value) (st : Jvm.State) : (allAtoms ts).before a st = ts.all (fun c => c.before a st) := by
  induction ts with
  | nil => rfl
  | cons c t ih =>
    show (Jvm.Cond.and c (allAtoms t)).before a st = _
    rw [Jvm.Cond.before_and, ih, List.all_cons]
def words1 : List Jvm.Cond := Jvm.Cond.code x code maxLocals ret :: tables_1
/-- a 'code' word, met by the world's own term for the bytes: nothing is compared byte by byte -/
theorem code_word {y : MethodName} {bytes : ByteArray} {mx : Nat} {rt : Option FieldType} {a : Array Value} {s : State} {m : MethodId} {meth : Method} {c : Code} (h1 : s.methodNamed? y = some m) (h2 : s.vm.method? m = some meth) (h3 : meth.code = some c) (h4 : c.code = bytes)
    (h5 : (c.maxLocals == mx && c.exceptionTable.isEmpty && decide (c.maxStack ≤ mostOperands) && decide (meth.sig.returnType = rt) && !meth.locks && decide (parseMethodDescriptor y.desc = some meth.sig)) = true) : (Jvm.Cond.code y bytes mx rt).before a s = true := by
  simp only [Bool.and_eq_true, beq_iff_eq, Bool.not_eq_true', decide_eq_true_eq] at h5
  obtain ⟨⟨⟨⟨⟨g1, g2⟩, g3⟩, g4⟩, g5⟩, g6⟩ := h5
  simp [Cond.before, Cond.holds, Cond.value, h1, h2, h3, h4, g1, g2, g3, g4, g5, g6]
def isCode : Jvm.Cond → Bool
  | .code _ _ _ _ => true
  | _ => false
theorem all_split {L : List Jvm.Cond} {P : Jvm.Cond → Bool} (h1 : L.all (fun c => isCode c || P c) = true) (h2 : ∀ c ∈ L.filter isCode, P c = true) : L.all P = true := by
  refine List.all_eq_true.mpr fun c hc => ?_
  have h := List.all_eq_true.mp h1 c hc
  rcases Bool.eq_false_or_eq_true (isCode c) with hi | hi
  · exact h2 c (List.mem_filter.mpr ⟨hc, hi⟩)
  · simpa [hi] using h
set_option maxRecDepth 65536 in
theorem w_c0 : (Jvm.Cond.code x code maxLocals ret).before args0 about1 = true := code_word (m := ⟨1, 1⟩) (meth := k1m1) (c := k1c1) (by decide +kernel) rfl rfl rfl (by decide +kernel)
set_option maxRecDepth 65536 in
theorem w_c1 : (Jvm.Cond.code ({ cls := "com/example/tourwerk/tourwerk/solve/Cheapest", name := "<init>", desc := "()V" } : Jvm.MethodName) prog_28_method_1_code (1 : Nat) (Option.none : Option Jvm.ClassFile.FieldType)).before args0 about1 = true := code_word (m := ⟨3, 0⟩) (meth := k3m0) (c := k3c0) (by decide +kernel) rfl rfl rfl (by decide +kernel)
set_option maxRecDepth 65536 in
theorem w_c2 : (Jvm.Cond.code ({ cls := "com/example/tourwerk/tourwerk/solve/Cheapest", name := "<init>", desc := "(Ljava/util/Random;D)V" } : Jvm.MethodName) prog_28_method_2_code (4 : Nat) (Option.none : Option Jvm.ClassFile.FieldType)).before args0 about1 = true := code_word (m := ⟨3, 1⟩) (meth := k3m1) (c := k3c1) (by decide +kernel) rfl rfl rfl (by decide +kernel)
set_option maxRecDepth 65536 in
theorem w_c3 : (Jvm.Cond.code ({ cls := "java/lang/Object", name := "<init>", desc := "()V" } : Jvm.MethodName) object_method_1_code (1 : Nat) (Option.none : Option Jvm.ClassFile.FieldType)).before args0 about1 = true := code_word (m := ⟨0, 0⟩) (meth := k0m0) (c := k0c0) (by decide +kernel) rfl rfl rfl (by decide +kernel)
set_option maxRecDepth 65536 in
theorem w_c4 : (Jvm.Cond.code ({ cls := "com/example/tourwerk/tourwerk/solve/Cheapest", name := "offer", desc := "(IID)V" } : Jvm.MethodName) prog_28_method_5_code (5 : Nat) (Option.none : Option Jvm.ClassFile.FieldType)).before args0 about1 = true := code_word (m := ⟨3, 2⟩) (meth := k3m2) (c := k3c2) (by decide +kernel) rfl rfl rfl (by decide +kernel)
set_option maxRecDepth 65536 in
theorem w_c5 : (Jvm.Cond.code ({ cls := "java/lang/Math", name := "min", desc := "(II)I" } : Jvm.MethodName) jdk_29_method_69_code (2 : Nat) (Option.some Jvm.ClassFile.FieldType.int)).before args0 about1 = true := code_word (m := ⟨4, 1⟩) (meth := k4m1) (c := k4c1) (by decide +kernel) rfl rfl rfl (by decide +kernel)
set_option maxRecDepth 65536 in
theorem w_c6 : (Jvm.Cond.code ({ cls := "com/example/tourwerk/tourwerk/solve/Cheapest", name := "position", desc := "()I" } : Jvm.MethodName) prog_28_method_7_code (1 : Nat) (Option.some Jvm.ClassFile.FieldType.int)).before args0 about1 = true := code_word (m := ⟨3, 3⟩) (meth := k3m3) (c := k3c3) (by decide +kernel) rfl rfl rfl (by decide +kernel)
set_option maxRecDepth 65536 in
theorem w_c7 : (Jvm.Cond.code ({ cls := "com/example/tourwerk/tourwerk/solve/Cheapest", name := "secondPosition", desc := "()I" } : Jvm.MethodName) prog_28_method_8_code (1 : Nat) (Option.some Jvm.ClassFile.FieldType.int)).before args0 about1 = true := code_word (m := ⟨3, 4⟩) (meth := k3m4) (c := k3c4) (by decide +kernel) rfl rfl rfl (by decide +kernel)
set_option maxRecDepth 65536 in
theorem w_c8 : (Jvm.Cond.code ({ cls := "com/example/tourwerk/tourwerk/solve/Cheapest", name := "cost", desc := "()D" } : Jvm.MethodName) prog_28_method_9_code (1 : Nat) (Option.some Jvm.ClassFile.FieldType.double)).before args0 about1 = true := code_word (m := ⟨3, 5⟩) (meth := k3m5) (c := k3c5) (by decide +kernel) rfl rfl rfl (by decide +kernel)
def codes1 : List Jvm.Cond := [Jvm.Cond.code x code maxLocals ret, Jvm.Cond.code ({ cls := "com/example/tourwerk/tourwerk/solve/Cheapest", name := "<init>", desc := "()V" } : Jvm.MethodName) prog_28_method_1_code (1 : Nat) (Option.none : Option Jvm.ClassFile.FieldType), Jvm.Cond.code ({ cls := "com/example/tourwerk/tourwerk/solve/Cheapest", name := "<init>", desc := "(Ljava/util/Random;D)V" } : Jvm.MethodName) prog_28_method_2_code (4 : Nat) (Option.none : Option Jvm.ClassFile.FieldType), Jvm.Cond.code ({ cls := "java/lang/Object", name := "<init>", desc := "()V" } : Jvm.MethodName) object_method_1_code (1 : Nat) (Option.none : Option Jvm.ClassFile.FieldType), Jvm.Cond.code ({ cls := "com/example/tourwerk/tourwerk/solve/Cheapest", name := "offer", desc := "(IID)V" } : Jvm.MethodName) prog_28_method_5_code (5 : Nat) (Option.none : Option Jvm.ClassFile.FieldType), Jvm.Cond.code ({ cls := "java/lang/Math", name := "min", desc := "(II)I" } : Jvm.MethodName) jdk_29_method_69_code (2 : Nat) (Option.some Jvm.ClassFile.FieldType.int), Jvm.Cond.code ({ cls := "com/example/tourwerk/tourwerk/solve/Cheapest", name := "position", desc := "()I" } : Jvm.MethodName) prog_28_method_7_code (1 : Nat) (Option.some Jvm.ClassFile.FieldType.int), Jvm.Cond.code ({ cls := "com/example/tourwerk/tourwerk/solve/Cheapest", name := "secondPosition", desc := "()I" } : Jvm.MethodName) prog_28_method_8_code (1 : Nat) (Option.some Jvm.ClassFile.FieldType.int), Jvm.Cond.code ({ cls := "com/example/tourwerk/tourwerk/solve/Cheapest", name := "cost", desc := "()D" } : Jvm.MethodName) prog_28_method_9_code (1 : Nat) (Option.some Jvm.ClassFile.FieldType.double)]
set_option maxRecDepth 65536 in
theorem codes_eq : words1.filter isCode = codes1 := rfl
theorem w_codes : ∀ c ∈ words1.filter isCode, c.before args0 about1 = true := by
  rw [codes_eq]
  intro c hc
  simp only [codes1, List.mem_cons, List.not_mem_nil, or_false] at hc
  rcases hc with rfl | rfl | rfl | rfl | rfl | rfl | rfl | rfl | rfl
  · exact w_c0
  · exact w_c1
  · exact w_c2
  · exact w_c3
  · exact w_c4
  · exact w_c5
  · exact w_c6
  · exact w_c7
  · exact w_c8
set_option maxRecDepth 65536 in
theorem w_t1 : (words1.take 24).all (fun c => isCode c || c.before args0 about1) = true := by decide +kernel
set_option maxRecDepth 65536 in
theorem w_t2 : ((words1.drop 24).take 24).all (fun c => isCode c || c.before args0 about1) = true := by decide +kernel
set_option maxRecDepth 65536 in
theorem w_t3 : ((words1.drop 24).drop 24).all (fun c => isCode c || c.before args0 about1) = true := by decide +kernel
theorem w_tables : (allAtoms (Jvm.Cond.code x code maxLocals ret :: tables_1)).before args0 about1 = true := by
  rw [allAtoms_all]
  show words1.all (fun c => c.before args0 about1) = true
  refine all_split ?_ w_codes
  rw [← List.take_append_drop 24 words1, List.all_append, w_t1, ← List.take_append_drop 24 (words1.drop 24), List.all_append, w_t2, w_t3]
  rfl
set_option maxRecDepth 65536 in
theorem w_case : (Jvm.Cond.and given_1 narrow_1).before args0 about1 = true := by decide +kernel
theorem w_applies : (headSpec (Jvm.Cond.code x code maxLocals ret :: tables_1) room_1).applies x e0.platform about1 = true :=
  (Spec.applies_iff w_frames).mpr ⟨w_running, w_runnable, w_alone, w_named, w_hears, w_ripe, w_room, w_tables⟩
theorem atStart : AtStart classFile x code maxLocals ret World_1 tables_1 room_1 Calls_1 rest_1 Pre_1 launch0 p0 e0 about1 theMethod args0 below0 :=
  ⟨lists_1, trivial, launch0.admits_env _ _ _, launch0.least_env, fairChoices_fair.cas, fairChoices_fair.clock, w_frames, w_args, w_heap, w_applies, trivial, trivial, w_case⟩
end start1
theorem witness_1 : WitnessClaimed_1 := ⟨start1.p0, start1.e0, start1.about1, start1.theMethod, start1.args0, start1.below0, start1.atStart⟩
end Jvm.Pilot.@@N@@
