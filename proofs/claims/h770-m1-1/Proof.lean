import JvmDerived
import JvmDerived.Pilot.@@N@@Statement
import JvmDerived.Pilot.@@N@@Code
set_option linter.unusedVariables false
set_option linter.unusedSimpArgs false
namespace Jvm.Pilot.@@N@@
open Jvm Jvm.ClassFile Sem Op Lib Jvm.Free Jvm.Stand Jvm.LawKit Jvm.RoadKit Bundle Jvm.Pilot.@@N@@.Jvm.D
/-! the walk goes on from A and ends as P says -/
def OGo (tb : Tables) (e : Env) (below : List Frame) (P : State → Outcome → Prop) (A : State) : Prop := ∃ U o, Steps tb e below A U ∧ U.status = .running ∧ Ended U below o ∧ P U o
def OPost (s : State) (Q : Option Value → Heap → List Loc → Prop) (k n : Nat) (U : State) (o : Outcome) : Prop := ∃ v L, o = .returned v ∧ Q v U.heap L ∧ FrameEnd s o U L k n
theorem OGo.st {tb : Tables} {e : Env} {below : List Frame} {P : State → Outcome → Prop} {A B : State} (st : ∀ t, Steps tb e below B t → Steps tb e below A t) (h : OGo tb e below P B) : OGo tb e below P A := by
  obtain ⟨U, o, h1, h2⟩ := h; exact ⟨U, o, st _ h1, h2⟩
theorem OGo.tr {tb : Tables} {e : Env} {below : List Frame} {P : State → Outcome → Prop} {A B : State} (st : Steps tb e below A B) (h : OGo tb e below P B) : OGo tb e below P A := by
  obtain ⟨U, o, h1, h2⟩ := h; exact ⟨U, o, st.trans h1, h2⟩
theorem OGo.enter {tb : Tables} {e : Env} {below : List Frame} {P : State → Outcome → Prop} {T : State} {g g' : JFrame} (q : g = g') (h : OGo tb e below P (T.setTop g')) : OGo tb e below P (T.setTop g) := q ▸ h
section Own
variable {p : Program} {l : Launch} {e : Env} {R : Room} {s : State} {m : MethodId} {args : Array Value} {below : List Frame} {meth : Method} {c : Code} {T : State} {locs : List Loc} {cells slots k n : Nat} {Q : Option Value → Heap → List Loc → Prop}
theorem OGo.fin (X : Stand p l e R s m args below meth c T locs cells slots) {v : Option Value} (hv : meth.sig.returnType = none → v = none) (hlk : meth.locks = false) {g : JFrame}
    (hst : ∀ fs, (∀ (f : JFrame) (acts : List Action), f.method = m → f.locked = none → f.entered = [] → (doReturn e (T.setTop f) acts v).1 = T.setFrames fs) → Steps p.tables e below (T.setTop g) (T.setFrames fs)) (hq : Q v T.heap locs) (hk : cells ≤ k) (hn : slots ≤ n) : OGo p.tables e below (OPost s Q k n) (T.setTop g) := by
  obtain ⟨fs, hr, hrun, hended, hW, hsame⟩ := X.leave hv hlk
  exact ⟨_, _, hst fs hr, hrun, hended, _, _, rfl, hq, ⟨_, rfl⟩, hW, hsame.mono hk hn⟩
theorem own_reb {L' : List Loc} {k' n' : Nat} (X : Stand p l e R s m args below meth c T locs cells slots) (h1 : locs = L') (h2 : cells = k') (h3 : slots = n') : Stand p l e R s m args below meth c T L' k' n' := by subst h1 h2 h3; exact X
theorem own_wide (X : Stand p l e R s m args below meth c T locs cells slots) {k n : Nat} (hk : cells ≤ k) (hn : slots ≤ n) : Stand p l e R s m args below meth c T locs k n := { X with same := X.same.mono hk hn }
end Own
abbrev OMet (l : Launch) (Z : State) (y : MethodName) (code : ByteArray) (ml : Nat) (ret : Option FieldType) (ws : List Jvm.Cond) (rm : Room) (as : Array Value) (h0 : Heap) (Q : Option Value → Heap → List Loc → Prop) : Prop :=
  MetFree l y (head1 (Jvm.Cond.code y code ml ret :: ws) rm) (fun a U => a = as ∧ Z.Warmed39 U.vm ∧ U.heap = h0) (fun _ _ _ _ _ => True) (fun _ U o U' => ∃ v L, o = .returned v ∧ Q v U'.heap L ∧ FrameEnd U o U' L rm.cells rm.slots)
def Arf (Z : State) (h : Heap) (a : Addr) (k : ClassId) (ty : FieldType) (n : Int32) (f : Nat → Value) : Prop := ∃ c : Cell, Arr Z h a c ty ∧ c.cls = k ∧ c.slots.size = n.toNatClampNeg ∧ ¬ n < 0 ∧ (∀ i, i < c.slots.size → c.slots[i]? = some (f i)) ∧ ∀ i, i < c.slots.size → fits ty (f i) = true
def own_upd (f : Nat → Value) (j : Nat) (v : Value) : Nat → Value := fun i => if i = j then v else f i
section OwnArr
variable {p : Program} {l : Launch} {e : Env} {R : Room} {s : State} {m : MethodId} {args : Array Value} {below : List Frame} {meth : Method} {c : Code} {T : State} {locs : List Loc} {cells slots : Nat} {Z : State} {h h' : Heap} {a b : Addr} {k : ClassId} {ty : FieldType} {n j : Int32} {f f' : Nat → Value} {sl : Nat} {v : Value} {ws : List Addr}
theorem Arf.lt (F : Arf Z h a k ty n f) : a < h.size := by obtain ⟨c, A, _⟩ := F; exact A.lt
theorem Arf.ext (F : Arf Z h a k ty n f) (E : Ext h h') : Arf Z h' a k ty n f := by obtain ⟨c, A, r⟩ := F; exact ⟨c, A.ext E, r⟩
theorem Arf.other (F : Arf Z h b k ty n f) (W : Wr h h' a sl v) (q : b ≠ a) : Arf Z h' b k ty n f := by obtain ⟨c, A, r⟩ := F; exact ⟨c, A.other W q, r⟩
theorem Arf.keep (F : Arf Z h a k ty n f) (K : Keep h h' ws) (q : a ∉ ws) : Arf Z h' a k ty n f := by obtain ⟨c, A, r⟩ := F; exact ⟨c, ⟨K.2.1 a c A.1 q, A.2⟩, r⟩
theorem Arf.pos (F : Arf Z h a k ty n f) : ¬ n < 0 := by obtain ⟨c, A, h1, h2, h3, -⟩ := F; exact h3
theorem Arf.congr (F : Arf Z h a k ty n f) (q : ∀ i, i < n.toNatClampNeg → f i = f' i) : Arf Z h a k ty n f' := by
  obtain ⟨c, A, h1, h2, h3, H, G⟩ := F
  exact ⟨c, A, h1, h2, h3, fun i hi => by rw [H i hi, q i (h2 ▸ hi)], fun i hi => by rw [← q i (h2 ▸ hi)]; exact G i hi⟩
theorem own_new (A : Arr Z h a (newA k ty n) ty) (q : ¬ n < 0) : Arf Z h a k ty n (fun _ => defaultValue ty) := by
  obtain ⟨c, A', h1, h2, h3, H, G⟩ := Arv.new A q
  exact ⟨c, A', h1, h2, h3, fun i hi => by have := H i hi; simpa using this, fun i hi => by have := G i hi; simpa using this⟩
theorem own_set (F : Arf Z h a k ty n f) (hv : fits ty v = true) {jj : Nat} (W : Wr h h' a jj v) : Arf Z h' a k ty n (own_upd f jj v) := by
  obtain ⟨c, A, h1, h2, h3, H, G⟩ := F
  have hj : jj < c.slots.size := by obtain ⟨c', w1, -, w3, -⟩ := W; cases w1.symm.trans A.1; exact w3
  refine ⟨c.setSlot jj v, A.same W, h1, by simpa [Cell.setSlot] using h2, h3, fun i hi => ?_, fun i hi => ?_⟩
  · have hi' : i < c.slots.size := by simpa [Cell.setSlot] using hi
    by_cases q : i = jj
    · subst q; simp [Cell.setSlot, own_upd, hi']
    · have := H i hi'; simp only [own_upd, if_neg q]; rw [← this]; exact Array.getElem?_setIfInBounds_ne (Ne.symm q)
  · have hi' : i < c.slots.size := by simpa [Cell.setSlot] using hi
    by_cases q : i = jj
    · simp only [own_upd, if_pos q]; exact hv
    · simp only [own_upd, if_neg q]; exact G i hi'
theorem own_alen (X : Stand p l e R s m args below meth c T locs cells slots) (hx : p.tables.exec = Jvm.exec) (hZ : Z.Warmed39 s.vm) (eT : T.heap = h) (F : Arf Z h a k ty n f) {g : JFrame} (hg : g.method = m) {rest : List Value} (hs : g.stack = .ref a :: rest) (hd : decode c.code g.pc = .ok (.arraylength, 1)) :
    ∀ t, Steps p.tables e below (T.setTop { g with pc := g.pc + 1, stack := .int n :: rest }) t → Steps p.tables e below (T.setTop g) t := by
  obtain ⟨cl, A, h1, S, N, H, G⟩ := F
  intro t k_
  refine X.arraylength hx (by rw [eT]; exact A.1) (State.isArrayOf_alike hZ.alike A.2.1) hg hs hd t ?_
  rw [len_of S N]; exact k_
theorem own_at (S : cells = n.toNatClampNeg) (hin : ¬ j < 0 ∧ j < n) : j.toNatClampNeg < cells := by
  have h1 := nat_of hin.1
  have h2 : ¬ n < 0 := fun q => by have := hin.1; have := hin.2; rw [Int32.lt_iff_toInt_lt] at *; omega
  have h3 := nat_of h2
  have h4 := hin.2; rw [Int32.lt_iff_toInt_lt] at h4; omega
theorem own_ldI (X : Stand p l e R s m args below meth c T locs cells slots) (hx : p.tables.exec = Jvm.exec) (hZ : Z.Warmed39 s.vm) (eT : T.heap = h) (F : Arf Z h a k .int n f) {j v : Int32} (hin : ¬ j < 0 ∧ j < n) (hv : f j.toNatClampNeg = .int v) {g : JFrame} (hg : g.method = m) {rest : List Value} (hs : g.stack = .int j :: .ref a :: rest) (hd : decode c.code g.pc = .ok (.iaload, 1)) :
    ∀ t, Steps p.tables e below (T.setTop { g with pc := g.pc + 1, stack := .int v :: rest }) t → Steps p.tables e below (T.setTop g) t := by
  obtain ⟨cl, A, h1, S, N, H, G⟩ := F
  exact X.iaload hx (by rw [eT]; exact A.1) (State.isArrayOf_alike hZ.alike A.2.1) A.2.2 (inb_of S hin) (by rw [H _ (own_at S hin), hv]) hg hs hd
theorem own_ldJ (X : Stand p l e R s m args below meth c T locs cells slots) (hx : p.tables.exec = Jvm.exec) (hZ : Z.Warmed39 s.vm) (eT : T.heap = h) (F : Arf Z h a k .long n f) {j : Int32} {v : Int64} (hin : ¬ j < 0 ∧ j < n) (hv : f j.toNatClampNeg = .long v) {g : JFrame} (hg : g.method = m) {rest : List Value} (hs : g.stack = .int j :: .ref a :: rest) (hd : decode c.code g.pc = .ok (.laload, 1)) :
    ∀ t, Steps p.tables e below (T.setTop { g with pc := g.pc + 1, stack := .long v :: rest }) t → Steps p.tables e below (T.setTop g) t := by
  obtain ⟨cl, A, h1, S, N, H, G⟩ := F
  exact X.laload hx (by rw [eT]; exact A.1) (State.isArrayOf_alike hZ.alike A.2.1) A.2.2 (inb_of S hin) (by rw [H _ (own_at S hin), hv]) hg hs hd
theorem own_ldB (X : Stand p l e R s m args below meth c T locs cells slots) (hx : p.tables.exec = Jvm.exec) (hZ : Z.Warmed39 s.vm) (eT : T.heap = h) (F : Arf Z h a k .byte n f) {j v : Int32} (hin : ¬ j < 0 ∧ j < n) (hv : f j.toNatClampNeg = .int v) {g : JFrame} (hg : g.method = m) {rest : List Value} (hs : g.stack = .int j :: .ref a :: rest) (hd : decode c.code g.pc = .ok (.baload, 1)) :
    ∀ t, Steps p.tables e below (T.setTop { g with pc := g.pc + 1, stack := .int v :: rest }) t → Steps p.tables e below (T.setTop g) t := by
  obtain ⟨cl, A, h1, S, N, H, G⟩ := F
  exact X.baloadBytes hx (by rw [eT]; exact A.1) (State.isArrayOf_alike hZ.alike A.2.1) A.2.2 (inb_of S hin) (by rw [H _ (own_at S hin), hv]) hg hs hd
theorem own_ldR (X : Stand p l e R s m args below meth c T locs cells slots) (hx : p.tables.exec = Jvm.exec) (hZ : Z.Warmed39 s.vm) (eT : T.heap = h) {C : String} (F : Arf Z h a k (.object C) n f) {j : Int32} {v : Value} (hin : ¬ j < 0 ∧ j < n) (hv : f j.toNatClampNeg = v) {g : JFrame} (hg : g.method = m) {rest : List Value} (hs : g.stack = .int j :: .ref a :: rest) (hd : decode c.code g.pc = .ok (.aaload, 1)) :
    ∀ t, Steps p.tables e below (T.setTop { g with pc := g.pc + 1, stack := v :: rest }) t → Steps p.tables e below (T.setTop g) t := by
  obtain ⟨cl, A, h1, S, N, H, G⟩ := F
  exact X.aaload hx (by rw [eT]; exact A.1) (State.isArrayOf_alike hZ.alike A.2.1) rfl A.2.2 (inb_of S hin) (by rw [H _ (own_at S hin), hv]) hg hs hd
theorem own_stI (X : Stand p l e R s m args below meth c T locs cells slots) (hx : p.tables.exec = Jvm.exec) (hZ : Z.Warmed39 s.vm) (eT : T.heap = h) (F : Arf Z h a k .int n f) {j x : Int32} (hin : ¬ j < 0 ∧ j < n) {g : JFrame} (hg : g.method = m) {rest : List Value} (hs : g.stack = .int x :: .int j :: .ref a :: rest) (hd : decode c.code g.pc = .ok (.iastore, 1)) :
    ∃ T' h', Stand p l e R s m args below meth c T' (locs ++ [⟨a, j.toNatClampNeg⟩]) cells slots ∧ T'.heap = h' ∧ Wr h h' a j.toNatClampNeg (.int x) ∧ Arf Z h' a k .int n (own_upd f j.toNatClampNeg (.int x)) ∧ ∀ target, Steps p.tables e below (T'.setTop { g with pc := g.pc + 1, stack := rest }) target → Steps p.tables e below (T.setTop g) target := by
  obtain ⟨cl, A, h1, S, N, H, G⟩ := id F
  obtain ⟨T', h', X', e', W, st⟩ := stI X hx hZ eT A (inb_of S hin) hg hs hd
  exact ⟨T', h', X', e', W, own_set F rfl W, st⟩
theorem own_stJ (X : Stand p l e R s m args below meth c T locs cells slots) (hx : p.tables.exec = Jvm.exec) (hZ : Z.Warmed39 s.vm) (eT : T.heap = h) (F : Arf Z h a k .long n f) {j : Int32} {x : Int64} (hin : ¬ j < 0 ∧ j < n) {g : JFrame} (hg : g.method = m) {rest : List Value} (hs : g.stack = .long x :: .int j :: .ref a :: rest) (hd : decode c.code g.pc = .ok (.lastore, 1)) :
    ∃ T' h', Stand p l e R s m args below meth c T' (locs ++ [⟨a, j.toNatClampNeg⟩]) cells slots ∧ T'.heap = h' ∧ Wr h h' a j.toNatClampNeg (.long x) ∧ Arf Z h' a k .long n (own_upd f j.toNatClampNeg (.long x)) ∧ ∀ target, Steps p.tables e below (T'.setTop { g with pc := g.pc + 1, stack := rest }) target → Steps p.tables e below (T.setTop g) target := by
  obtain ⟨cl, A, h1, S, N, H, G⟩ := id F
  obtain ⟨T', h', X', e', W, st⟩ := stJ X hx hZ eT A (inb_of S hin) hg hs hd
  exact ⟨T', h', X', e', W, own_set F rfl W, st⟩
theorem own_stB (X : Stand p l e R s m args below meth c T locs cells slots) (hx : p.tables.exec = Jvm.exec) (hZ : Z.Warmed39 s.vm) (eT : T.heap = h) (F : Arf Z h a k .byte n f) {j x : Int32} (hin : ¬ j < 0 ∧ j < n) {g : JFrame} (hg : g.method = m) {rest : List Value} (hs : g.stack = .int x :: .int j :: .ref a :: rest) (hd : decode c.code g.pc = .ok (.bastore, 1)) :
    ∃ T' h', Stand p l e R s m args below meth c T' (locs ++ [⟨a, j.toNatClampNeg⟩]) cells slots ∧ T'.heap = h' ∧ Wr h h' a j.toNatClampNeg (.int (nar .byte x)) ∧ Arf Z h' a k .byte n (own_upd f j.toNatClampNeg (.int (nar .byte x))) ∧ ∀ target, Steps p.tables e below (T'.setTop { g with pc := g.pc + 1, stack := rest }) target → Steps p.tables e below (T.setTop g) target := by
  obtain ⟨cl, A, h1, S, N, H, G⟩ := id F
  obtain ⟨T', h', X', e', W, st⟩ := stB X hx hZ eT A (inb_of S hin) hg hs hd
  exact ⟨T', h', X', e', W, own_set F (fits_nar_byte _) W, st⟩
theorem own_stR (X : Stand p l e R s m args below meth c T locs cells slots) (hx : p.tables.exec = Jvm.exec) (hZ : Z.Warmed39 s.vm) (eT : T.heap = h) {C : String} (F : Arf Z h a k (.object C) n f) {j : Int32} {x : Value} (hin : ¬ j < 0 ∧ j < n) (hr : x.isRef = true) (hS : Sto Z h a x) {g : JFrame} (hg : g.method = m) {rest : List Value} (hs : g.stack = x :: .int j :: .ref a :: rest) (hd : decode c.code g.pc = .ok (.aastore, 1)) :
    ∃ T' h', Stand p l e R s m args below meth c T' (locs ++ [⟨a, j.toNatClampNeg⟩]) cells slots ∧ T'.heap = h' ∧ Wr h h' a j.toNatClampNeg x ∧ Arf Z h' a k (.object C) n (own_upd f j.toNatClampNeg x) ∧ ∀ target, Steps p.tables e below (T'.setTop { g with pc := g.pc + 1, stack := rest }) target → Steps p.tables e below (T.setTop g) target := by
  obtain ⟨cl, A, h1, S, N, H, G⟩ := id F
  obtain ⟨T', h', X', e', W, st⟩ := stR X hx hZ eT A (inb_of S hin) rfl hS hg hs hd
  exact ⟨T', h', X', e', W, own_set F (by rcases ref_cases hr with rfl | ⟨y, rfl⟩ <;> rfl) W, st⟩
theorem own_getD (f : Nat → Value) (n i : Nat) (d : Value) (h : i < n) : ((List.range n).map f).getD i d = f i := by
  simp [List.getD_eq_getElem?_getD, h]
theorem Arf.arv (F : Arf Z h a k ty n f) (d : Value) : Arv Z h a k ty n ((List.range n.toNatClampNeg).map f) d := by
  obtain ⟨c, A, h1, S, N, H, G⟩ := F
  exact ⟨c, A, h1, S, N, fun i hi => by rw [own_getD f _ i d (S ▸ hi)]; exact H i hi, fun i hi => by rw [own_getD f _ i d (S ▸ hi)]; exact G i hi⟩
theorem own_ofArv {vs : List Value} {d : Value} (F : Arv Z h a k ty n vs d) : Arf Z h a k ty n (fun i => vs.getD i d) := F
/-- System.arraycopy of a part of a primitive array into another one -/
theorem own_copy (X : Stand p l e R s m args below meth c T locs cells slots) (hx : p.tables.exec = Jvm.exec) (hZ : Z.Warmed39 s.vm) {a0 : Array Value} {own : String} {index : Nat} (hown : s.vm.findClass own = some m.cls)
    (w1 : (Jvm.Cond.methodLink own index Jvm.Stand.acN).before a0 Z = true) (w2 : (Jvm.Cond.native Jvm.Stand.acN).before a0 Z = true) (w3 : (Jvm.Cond.static Jvm.Stand.acN).before a0 Z = true) (w4 : (Jvm.Cond.initialized "java/lang/System").before a0 Z = true) (eT : T.heap = h)
    {k' : ClassId} {z' sp dp nn : Int32} (A : Arf Z h a k ty n f) (B : Arf Z h b k' ty z' f') (hty : refKind ty = false)
    (h1 : ¬ sp < 0) (h2 : ¬ dp < 0) (h3 : ¬ nn < 0) (h4 : sp.toNatClampNeg + nn.toNatClampNeg ≤ n.toNatClampNeg) (h5 : dp.toNatClampNeg + nn.toNatClampNeg ≤ z'.toNatClampNeg) {n0 : Nat} (N : Fr n0 locs) (ge : n0 ≤ b)
    {g : JFrame} (hg : g.method = m) (hsize : g.locals.size = c.maxLocals) {rest : List Value} (hs : g.stack = .int nn :: .int dp :: .ref b :: .int sp :: .ref a :: rest) (hd : decode c.code g.pc = .ok (.invokestatic index, 3))
    (hf : 1 ≤ R.frames) {W : Nat} (hW : 2 * g.monitorRoom + (rest.map fun v => v.category).sum ≤ W) (hlo : W + (nativeFrameWords "java/lang/System" "arraycopy" 5 + 11) ≤ R.locals) :
    ∃ T' h' L, Stand p l e R s m args below meth c T' L cells slots ∧ T'.heap = h' ∧ Fr n0 L ∧ Keep h h' [b] ∧ Arf Z h' b k' ty z' (fun i => if dp.toNatClampNeg ≤ i ∧ i < dp.toNatClampNeg + nn.toNatClampNeg then f (sp.toNatClampNeg + (i - dp.toNatClampNeg)) else f' i) ∧
      ∀ target, Steps p.tables e below (T'.setTop { g with pc := g.pc + 3, stack := rest }) target → Steps p.tables e below (T.setTop g) target := by
  obtain ⟨T', h', L, X', e', N', K', V', st⟩ := cpA X hx hZ hown w1 w2 w3 w4 eT (A.arv .null) (B.arv .null) (Or.inl ⟨rfl, hty⟩) h1 h2 h3 h4 h5 rfl (by simpa using h5) N ge hg hsize hs hd hf hW hlo
  refine ⟨T', h', L, X', e', N', K', (own_ofArv V').congr fun i hi => ?_, st⟩
  have hb : dp.toNatClampNeg ≤ z'.toNatClampNeg := by omega
  simp only [List.getD_eq_getElem?_getD]
  by_cases q1 : i < dp.toNatClampNeg
  · rw [if_neg (by omega), List.append_assoc, List.getElem?_append_left (by simp; omega), List.getElem?_take_of_lt q1]; simp [hi]
  · by_cases q2 : i < dp.toNatClampNeg + nn.toNatClampNeg
    · rw [if_pos ⟨by omega, q2⟩, List.append_assoc, List.getElem?_append_right (by simp; omega), List.getElem?_append_left (by simp; omega)]
      have e1 : min dp.toNatClampNeg z'.toNatClampNeg = dp.toNatClampNeg := Nat.min_eq_left hb
      simp only [List.length_take, List.length_map, List.length_range, e1]
      have e2 : i - dp.toNatClampNeg < nn.toNatClampNeg := by omega
      have e3 : sp.toNatClampNeg + (i - dp.toNatClampNeg) < n.toNatClampNeg := by omega
      simp [e2, e3]
    · rw [if_neg (by omega), List.getElem?_append_right (by simp; omega)]
      have e1 : min dp.toNatClampNeg z'.toNatClampNeg = dp.toNatClampNeg := Nat.min_eq_left hb
      simp only [List.length_append, List.length_take, List.length_map, List.length_range, e1, List.getElem?_drop]
      have e2 : dp.toNatClampNeg + nn.toNatClampNeg + (i - (dp.toNatClampNeg + nn.toNatClampNeg)) = i := by omega
      rw [e2]; simp [hi]
end OwnArr
theorem own_selfsel {Z : State} {a0 : Array Value} {y y0 : MethodName} (w0 : (Jvm.Cond.selects y.cls y0 y0).before a0 Z = true) (h0 : y0.cls = y.cls) (wi : (Jvm.Cond.instanceMethod y).before a0 Z = true) (wp : (Jvm.Cond.privateMethod y).before a0 Z = true) (hy : y.cls ≠ "java/lang/invoke/MethodHandle" ∧ y.cls ≠ "java/lang/invoke/VarHandle") : (Jvm.Cond.selects y.cls y y).before a0 Z = true := by
  obtain ⟨c, r, m, q1, q2, q3, q4, k, q5, q6⟩ := Cond.selects_spec w0
  have q7 := findClass_of_methodNamed q3
  rw [h0, q1] at q7
  cases q7
  exact selects_self_of_private q1 q5 q6 (Cond.privateMethod_at wp) wi hy
def own_L (w : Nat → Int64) : Nat → Value := fun i => .long (w i)
def own_need (p : Int32) : Int64 := ((10000 : Int64) + p.toInt64 - (1 : Int64)) / p.toInt64
def own_bit (m k : Int32) : Int32 := ((m.toUInt32 >>> (k &&& 31).toUInt32).toInt32) &&& (1 : Int32)
def own_pick (m k : Int32) (lo hi : Int64) : Int64 := if own_bit m k = 0 then lo else hi
def own_setw (w : Nat → Int64) (j : Nat) (v : Int64) : Nat → Int64 := fun i => if i = j then v else w i
def own_maxJ (x y : Int64) : Int64 := if x < y then y else x
def own_W (m : Int32) (lo hi : Int64) : Nat → Int64 := fun i => own_pick m (Int32.ofNat i) lo hi
def own_cnt (x : Int64) (w : Nat → Int64) : Nat := (if w 0 = x then 1 else 0) + (if w 1 = x then 1 else 0) + (if w 2 = x then 1 else 0) + (if w 3 = x then 1 else 0) + (if w 4 = x then 1 else 0)
def own_ins (w : Nat → Int64) (n p : Nat) : Nat → Int64 := fun i => if i < p then w i else if i = p then w n else if i ≤ n then w (i - 1) else w i
def own_I (k : Nat) (w w' : Nat → Int64) : Prop := (∀ i, i < k → ¬ w' (i + 1) < w' i) ∧ (∀ x, own_cnt x w' = own_cnt x w)
theorem own_upd_set (w : Nat → Int64) (j : Nat) (v : Int64) (i : Nat) : own_upd (own_L w) j (.long v) i = own_L (own_setw w j v) i := by
  unfold own_upd own_L own_setw
  by_cases q : i = j
  · rw [if_pos q, if_pos q]
  · rw [if_neg q, if_neg q]
theorem own_nlt {x y : Int64} (h : x < y) : ¬ y < x := by rw [Int64.lt_iff_toInt_lt] at *; omega
theorem own_cntI (x : Int64) (w : Nat → Int64) : ∀ n p : Nat, n < 5 → p ≤ n → own_cnt x (own_ins w n p) = own_cnt x w := by
  intro n p hn hp
  have h1 : n = 0 ∨ n = 1 ∨ n = 2 ∨ n = 3 ∨ n = 4 := by omega
  have h2 : p = 0 ∨ p = 1 ∨ p = 2 ∨ p = 3 ∨ p = 4 := by omega
  rcases h1 with rfl | rfl | rfl | rfl | rfl <;> rcases h2 with rfl | rfl | rfl | rfl | rfl <;> first | omega | (simp only [own_cnt, own_ins]; simp; done) | (simp only [own_cnt, own_ins]; simp; omega)
theorem own_step {k p : Nat} {w w' : Nat → Int64} (H : own_I k w w') (hk : k < 4) (hp : p ≤ k + 1) (h1 : p ≤ k → w' (k + 1) < w' p) (h2 : 0 < p → ¬ w' (k + 1) < w' (p - 1)) : own_I (k + 1) w (own_ins w' (k + 1) p) := by
  refine ⟨fun i hi => ?_, fun x => by rw [own_cntI x w' (k + 1) p (by omega) hp]; exact H.2 x⟩
  unfold own_ins
  by_cases a : i + 1 < p
  · rw [if_pos a, if_pos (by omega)]; exact H.1 i (by omega)
  · rw [if_neg a]
    by_cases b : i + 1 = p
    · rw [if_pos b, if_pos (by omega)]; have := h2 (by omega); rwa [← b] at this
    · rw [if_neg b, if_pos (by omega)]
      by_cases c : i = p
      · rw [if_neg (by omega), if_pos c]; have := own_nlt (h1 (by omega)); rw [← c] at this; exact this
      · rw [if_neg (by omega), if_neg c, if_pos (by omega)]
        have := H.1 (i - 1) (by omega)
        have e : i - 1 + 1 = i := by omega
        rw [e] at this; exact this
def own_med (c : Nat) (lo hi : Int64) : Int64 := if c < 3 then lo else hi
theorem own_medI {w w' : Nat → Int64} {lo hi : Int64} (H : own_I 4 w w') (hl : ¬ hi < lo) (hv : ∀ i, i < 5 → w i = lo ∨ w i = hi) : w' 2 = own_med (own_cnt hi w) lo hi := by
  by_cases e : lo = hi
  · subst e
    have hc : own_cnt lo w = 5 := by
      have a := fun i hi => (or_self_iff.mp (hv i hi)); simp [own_cnt, a 0, a 1, a 2, a 3, a 4]
    have hc' := H.2 lo; rw [hc] at hc'
    unfold own_med; rw [if_neg (by omega)]
    unfold own_cnt at hc'
    by_cases q : w' 2 = lo
    · exact q
    · exfalso; revert hc'; (repeat' split) <;> omega
  · have cl := H.2 lo; have ch := H.2 hi
    have tot : own_cnt lo w + own_cnt hi w = 5 := by
      have k : ∀ i, i < 5 → (if w i = lo then 1 else 0) + (if w i = hi then 1 else 0) = 1 := fun i q => by
        rcases hv i q with z | z
        · rw [z, if_pos rfl, if_neg e]
        · rw [z, if_pos rfl, if_neg (Ne.symm e)]
      have := k 0 (by omega); have := k 1 (by omega); have := k 2 (by omega); have := k 3 (by omega); have := k 4 (by omega)
      unfold own_cnt; omega
    have kk : ∀ i, (if w' i = lo then 1 else 0) + (if w' i = hi then 1 else 0) ≤ 1 := fun i => by
      by_cases z : w' i = lo
      · have : ¬ w' i = hi := fun y => e (z.symm.trans y)
        rw [if_pos z, if_neg this]; omega
      · rw [if_neg z]; split <;> omega
    have k0 := kk 0; have k1 := kk 1; have k2 := kk 2; have k3 := kk 3; have k4 := kk 4
    have two : ∀ i, i < 5 → w' i = lo ∨ w' i = hi := by
      intro i q
      have hs : own_cnt lo w' + own_cnt hi w' = 5 := by omega
      unfold own_cnt at hs
      have q' : i = 0 ∨ i = 1 ∨ i = 2 ∨ i = 3 ∨ i = 4 := by omega
      have fin : ∀ j, (if w' j = lo then 1 else 0) + (if w' j = hi then 1 else 0) = 1 → w' j = lo ∨ w' j = hi := fun j z => by
        by_cases y : w' j = lo
        · exact Or.inl y
        · by_cases y' : w' j = hi
          · exact Or.inr y'
          · rw [if_neg y, if_neg y'] at z; omega
      rcases q' with rfl | rfl | rfl | rfl | rfl <;> exact fin _ (by omega)
    have lt : lo < hi := by
      rw [Int64.lt_iff_toInt_lt] at hl ⊢
      have : lo.toInt ≠ hi.toInt := fun z => e (Int64.toInt_inj.mp z)
      omega
    have up : ∀ i, i < 4 → w' i = hi → w' (i + 1) = hi := fun i q z => by
      rcases two (i + 1) (by omega) with y | y
      · exact absurd (by rw [y, z]; exact lt) (H.1 i q)
      · exact y
    unfold own_med
    by_cases c : own_cnt hi w < 3
    · rw [if_pos c]
      rcases two 2 (by omega) with y | y
      · exact y
      · exfalso
        have y3 := up 2 (by omega) y; have y4 := up 3 (by omega) y3
        have : own_cnt hi w' ≥ 3 := by unfold own_cnt; rw [if_pos y, if_pos y3, if_pos y4]; omega
        omega
    · rw [if_neg c]
      rcases two 2 (by omega) with y | y
      · exfalso
        have z1 : w' 1 = lo := by rcases two 1 (by omega) with q | q; exact q; exact absurd ((up 1 (by omega) q).symm.trans y) (Ne.symm e)
        have z0 : w' 0 = lo := by rcases two 0 (by omega) with q | q; exact q; exact absurd ((up 0 (by omega) q).symm.trans z1) (Ne.symm e)
        have a0 : ¬ w' 0 = hi := fun q => e (z0.symm.trans q)
        have a1 : ¬ w' 1 = hi := fun q => e (z1.symm.trans q)
        have a2 : ¬ w' 2 = hi := fun q => e (y.symm.trans q)
        have : own_cnt hi w' ≤ 2 := by unfold own_cnt; rw [if_neg a0, if_neg a1, if_neg a2]; (repeat' split) <;> omega
        omega
      · exact y

theorem own_ldcD {p : Program} {l : Launch} {e : Env} {R : Room} {s : State} {m : MethodId} {args : Array Value} {below : List Frame} {meth : Method} {c : Code} {T : State} {locs : List Loc} {cells slots : Nat} {Z : State} {a0 : Array Value} (X : Stand p l e R s m args below meth c T locs cells slots) (hx : p.tables.exec = Jvm.exec) (hZ : Z.Warmed39 s.vm) {own : String} {index : Nat} {b : UInt64} (hown : s.vm.findClass own = some m.cls)
    (w : (Jvm.Cond.constantDouble own index b).before a0 Z = true) {g : JFrame} (hg : g.method = m) (hd : decode c.code g.pc = .ok (.ldc2_w index, 3)) : ∀ t, Steps p.tables e below (T.setTop { g with pc := g.pc + 3, stack := .double b :: g.stack }) t → Steps p.tables e below (T.setTop g) t := X.ldc2DoubleC hx hown (mvT hZ w) hg hd
def own_cv (mN mO : Int64) : Int32 := cmpValue (FP.dcmp (FP.l2d mN) (FP.dmul (4606281698874543309 : UInt64) (FP.l2d mO))) .l
def own_stl (nd mN mO : Int64) : Int32 := if (10 : Int64) < own_maxJ nd (10 : Int32).toInt64 then 0 else if own_cv mN mO < 0 then 0 else 1
def own_dn (s : Int32) (el : Int64) : Int32 := if s = 0 then (if el < (120000000000 : Int64) then 0 else 1) else 1
theorem own_dn_a {s : Int32} {el : Int64} (h : s = 0) (h2 : el < (120000000000 : Int64)) : own_dn s el = 0 := by unfold own_dn; rw [if_pos h, if_pos h2]
theorem own_dn_b {s : Int32} {el : Int64} (h : s = 0) (h2 : ¬ el < (120000000000 : Int64)) : own_dn s el = 1 := by unfold own_dn; rw [if_pos h, if_neg h2]
theorem own_dn_c {s : Int32} {el : Int64} (h : ¬ s = 0) : own_dn s el = 1 := by unfold own_dn; rw [if_neg h]
theorem own_nn (x : Int64) : Jvm.Free.Fl.NoNaN64 (FP.dmul (4606281698874543309 : UInt64) (FP.l2d x)) := Jvm.Free.Fl.dmul_out (by decide) (Jvm.Free.Fl.l2d_fin x)
theorem own_stl_no {nd mN mO : Int64} (h : (10 : Int64) < own_maxJ nd (10 : Int32).toInt64) : own_stl nd mN mO = 0 := by unfold own_stl; rw [if_pos h]
theorem own_stl_lt {nd mN mO : Int64} (h : ¬ (10 : Int64) < own_maxJ nd (10 : Int32).toInt64) (h2 : own_cv mN mO < 0) : own_stl nd mN mO = 0 := by unfold own_stl; rw [if_neg h, if_pos h2]
theorem own_stl_ge {nd mN mO : Int64} (h : ¬ (10 : Int64) < own_maxJ nd (10 : Int32).toInt64) (h2 : ¬ own_cv mN mO < 0) : own_stl nd mN mO = 1 := by unfold own_stl; rw [if_neg h, if_neg h2]
theorem own_stal {args : Array Value} {s : State} {C n : String} {k : Int64} (h : (Jvm.Cond.eq (.static C n "J") (.long k)).value args s none s [] = some true) (hi : (Jvm.Cond.initializedFor C n "J").before args s = true ∨ ((Jvm.Cond.initialized C).before args s = true ∧ (Jvm.Cond.laysStatic C n "J").before args s = true)) : Sta s s.heap C n "J" (.long k) := by
  obtain ⟨x, y, e1, e2, k1, k2⟩ := cmp_v (Or.inl h)
  have e3 : y = .long k := Option.some.inj (e2.symm.trans rfl)
  subst e3
  obtain ⟨z, rfl⟩ : ∃ z, x = .long z := k2
  have q := gotT (eq_L e1 e2) h
  subst q
  exact Sta.start e1 hi
theorem own_sta_keep {Z : State} {h h' : Heap} {C n d : String} {v : Value} (F : Sta Z h C n d v) (K : Keep h h' []) : Sta Z h' C n d v := by
  obtain ⟨cf, i, k, f, st, cell, h1, h2, h3, h4, h5, r⟩ := F
  exact ⟨cf, i, k, f, st, cell, h1, h2, h3, h4, K.2.1 _ _ h5 nin0, r⟩
theorem own_Wv (m : Int32) (lo hi : Int64) : ∀ i, i < 10 → own_W m lo hi i = lo ∨ own_W m lo hi i = hi := fun i _ => by
  unfold own_W own_pick; split
  · exact Or.inl rfl
  · exact Or.inr rfl
theorem own_bit01 (m k : Int32) : own_bit m k = 0 ∨ own_bit m k = 1 := by
  unfold own_bit
  generalize (m.toUInt32 >>> (k &&& 31).toUInt32).toInt32 = x
  have l : (x &&& (1 : Int32)).toBitVec.toNat ≤ 1 := by rw [Int32.toBitVec_and, BitVec.toNat_and]; exact Nat.and_le_right
  have h : (x &&& (1 : Int32)).toBitVec.toNat = 0 ∨ (x &&& (1 : Int32)).toBitVec.toNat = 1 := by omega
  rcases h with h | h
  · exact Or.inl (Int32.toBitVec_inj.mp (BitVec.eq_of_toNat_eq h))
  · exact Or.inr (Int32.toBitVec_inj.mp (BitVec.eq_of_toNat_eq h))
/-- the sum of five bits, as a number -/
theorem own_five {a b c d e : Int32} (ha : a = 0 ∨ a = 1) (hb : b = 0 ∨ b = 1) (hc : c = 0 ∨ c = 1) (hd : d = 0 ∨ d = 1) (he : e = 0 ∨ e = 1) : (a + b + c + d + e).toInt = a.toInt + b.toInt + c.toInt + d.toInt + e.toInt ∧ 0 ≤ (a + b + c + d + e).toInt ∧ (a + b + c + d + e).toInt ≤ 5 := by
  rcases ha with rfl | rfl <;> rcases hb with rfl | rfl <;> rcases hc with rfl | rfl <;> rcases hd with rfl | rfl <;> rcases he with rfl | rfl <;> decide
theorem own_pk {m k : Int32} {lo hi : Int64} (h : ¬ lo = hi) : (((if own_pick m k lo hi = hi then 1 else 0 : Nat) : Int)) = (own_bit m k).toInt := by
  rcases own_bit01 m k with q | q
  · have e : own_pick m k lo hi = lo := by unfold own_pick; rw [if_pos q]
    rw [e, if_neg h, q]; rfl
  · have e : own_pick m k lo hi = hi := by unfold own_pick; rw [if_neg (by rw [q]; decide)]
    rw [e, if_pos rfl, q]; rfl
theorem own_medG {m k0 k1 k2 k3 k4 : Int32} {lo hi x : Int64} {w : Nat → Int64} {hO : Int32} (w0 : w 0 = own_pick m k0 lo hi) (w1 : w 1 = own_pick m k1 lo hi) (w2 : w 2 = own_pick m k2 lo hi) (w3 : w 3 = own_pick m k3 lo hi) (w4 : w 4 = own_pick m k4 lo hi)
    (h : hO = own_bit m k0 + own_bit m k1 + own_bit m k2 + own_bit m k3 + own_bit m k4) (hx : x = (if hO < (3 : Int32) then lo else hi)) : own_med (own_cnt hi w) lo hi = x := by
  by_cases e : lo = hi
  · subst e; rw [hx]; unfold own_med; (repeat' split) <;> rfl
  · have c : ((own_cnt hi w : Nat) : Int) = hO.toInt := by
      have f := (own_five (own_bit01 m k0) (own_bit01 m k1) (own_bit01 m k2) (own_bit01 m k3) (own_bit01 m k4)).1
      have p0 := own_pk (m := m) (k := k0) e; have p1 := own_pk (m := m) (k := k1) e; have p2 := own_pk (m := m) (k := k2) e; have p3 := own_pk (m := m) (k := k3) e; have p4 := own_pk (m := m) (k := k4) e
      rw [h, f]; unfold own_cnt; rw [w0, w1, w2, w3, w4]; omega
    rw [hx]; unfold own_med
    have t3 : (3 : Int32).toInt = 3 := by decide
    by_cases q : own_cnt hi w < 3
    · rw [if_pos q, if_pos (by rw [Int32.lt_iff_toInt_lt]; omega)]
    · rw [if_neg q, if_neg (by rw [Int32.lt_iff_toInt_lt]; omega)]
theorem own_medO {m : Int32} {lo hi x : Int64} {hO : Int32} (h : hO = own_bit m (0 : Int32) + own_bit m (1 : Int32) + own_bit m (2 : Int32) + own_bit m (3 : Int32) + own_bit m (4 : Int32)) (hx : x = (if hO < (3 : Int32) then lo else hi)) : own_med (own_cnt hi (fun i => own_W m lo hi (0 + i))) lo hi = x := own_medG rfl rfl rfl rfl rfl h hx
theorem own_medN {m : Int32} {lo hi x : Int64} {hO : Int32} (h : hO = own_bit m (5 : Int32) + own_bit m (6 : Int32) + own_bit m (7 : Int32) + own_bit m (8 : Int32) + own_bit m (9 : Int32)) (hx : x = (if hO < (3 : Int32) then lo else hi)) : own_med (own_cnt hi (fun i => own_W m lo hi (5 + i))) lo hi = x := own_medG rfl rfl rfl rfl rfl h hx
theorem own_maxI (nd : Int64) : ((10 : Int64) < own_maxJ nd (10 : Int32).toInt64) ↔ (10 : Int64) < nd := by
  have e : (10 : Int32).toInt64 = 10 := by decide
  unfold own_maxJ; rw [e]
  split
  · rename_i h
    constructor
    · intro q; exact absurd q (by decide)
    · intro q; rw [Int64.lt_iff_toInt_lt] at *; omega
  · exact Iff.rfl
theorem own_fin1 {nd MN MO mN mO : Int64} {v : Int32} (eN : MN = mN) (eO : MO = mO) (h : v = (if (10 : Int64) < nd then (0 : Int32) else (if own_cv mN mO < 0 then (0 : Int32) else (1 : Int32)))) : own_stl nd MN MO = v := by
  rw [h, eN, eO]; unfold own_stl
  by_cases q : (10 : Int64) < nd
  · rw [if_pos q, if_pos ((own_maxI nd).mpr q)]
  · rw [if_neg q, if_neg (fun z => q ((own_maxI nd).mp z))]
theorem own_fin3 {nd MN MO el el2 : Int64} {v21 v24 : Int32} (h1 : own_stl nd MN MO = v21) (h2 : el = el2) (h : v24 = (if v21 = 0 then (if el2 < (120000000000 : Int64) then (0 : Int32) else (1 : Int32)) else (1 : Int32))) : own_dn (own_stl nd MN MO) el = v24 := by rw [h, h1, h2]; rfl
theorem own_msk (a : Int64) : 0 ≤ (a &&& (9223372036854775807 : Int64)).toInt := by
  have e : (a &&& (9223372036854775807 : Int64)).toBitVec = a.toBitVec &&& (BitVec.ofNat 64 9223372036854775807) := rfl
  show 0 ≤ (a &&& (9223372036854775807 : Int64)).toBitVec.toInt
  have l : (a &&& (9223372036854775807 : Int64)).toBitVec.toNat < 2 ^ 63 := by rw [e, BitVec.toNat_and]; exact Nat.lt_of_le_of_lt Nat.and_le_right (by decide)
  rw [BitVec.toInt_eq_toNat_of_lt (by omega)]; omega
theorem own_rem (x : Int64) (h : 0 ≤ x.toInt) : 0 ≤ (x - (x / (30000000000 : Int64)) * (30000000000 : Int64)).toInt ∧ (x - (x / (30000000000 : Int64)) * (30000000000 : Int64)).toInt < 30000000000 := by
  have l := x.toInt_lt
  have k : (30000000000 : Int64).toInt = 30000000000 := by decide
  have e1 : (x / (30000000000 : Int64)).toInt = x.toInt / 30000000000 := by
    rw [Int64.toInt_div, k, Int.tdiv_eq_ediv_of_nonneg h]
    exact XT.bmod64 (by unfold XT.fits64; omega)
  have e2 : ((x / (30000000000 : Int64)) * (30000000000 : Int64)).toInt = x.toInt / 30000000000 * 30000000000 := by
    rw [XT.mul64 (by rw [e1, k]; unfold XT.fits64; omega), e1, k]
  rw [XT.sub64 (by rw [e2]; unfold XT.fits64; omega), e2]; omega
theorem own_low {q1 lo : Int64} (h : lo = ((q1 &&& (9223372036854775807 : Int64)) - ((q1 &&& (9223372036854775807 : Int64)) / (30000000000 : Int64)) * (30000000000 : Int64))) : 0 ≤ lo.toInt ∧ lo.toInt < 30000000000 := by rw [h]; exact own_rem _ (own_msk _)
theorem own_high {q2 lo hi : Int64} (hl : 0 ≤ lo.toInt ∧ lo.toInt < 30000000000) (h : hi = (lo + ((q2 &&& (9223372036854775807 : Int64)) - ((q2 &&& (9223372036854775807 : Int64)) / (30000000000 : Int64)) * (30000000000 : Int64)))) : ¬ hi < lo ∧ 0 ≤ hi.toInt ∧ hi.toInt < 60000000000 := by
  have r := own_rem _ (own_msk q2)
  rw [h]
  generalize (q2 &&& (9223372036854775807 : Int64)) - ((q2 &&& (9223372036854775807 : Int64)) / (30000000000 : Int64)) * (30000000000 : Int64) = y at r
  have e : (lo + y).toInt = lo.toInt + y.toInt := XT.add64 (by unfold XT.fits64; omega)
  rw [Int64.lt_iff_toInt_lt, e]; omega
theorem own_srch {p4 sr : Int32} (h : sr = ((1 : Int32) + (p4 &&& (16383 : Int32)))) : ¬ sr < 1 ∧ sr.toInt64 ≠ 0 := by
  have l : (p4 &&& (16383 : Int32)).toBitVec.toNat ≤ 16383 := by rw [Int32.toBitVec_and, BitVec.toNat_and]; exact Nat.and_le_right
  have e : (p4 &&& (16383 : Int32)).toInt = (p4 &&& (16383 : Int32)).toBitVec.toNat := by show (p4 &&& (16383 : Int32)).toBitVec.toInt = _; exact BitVec.toInt_eq_toNat_of_lt (by omega)
  have e2 : sr.toInt = 1 + (p4 &&& (16383 : Int32)).toInt := by rw [h]; exact XT.add32 (x := 1) (by show XT.fits32 (1 + _); unfold XT.fits32; omega)
  constructor
  · rw [Int32.lt_iff_toInt_lt]; show ¬ sr.toInt < 1; omega
  · intro q; have : sr.toInt64.toInt = 0 := by rw [q]; rfl
    rw [Int32.toInt_toInt64] at this; omega
theorem own_pkI {m k : Int32} {lo hi : Int64} : (own_pick m k lo hi).toInt = lo.toInt + (own_bit m k).toInt * (hi.toInt - lo.toInt) := by
  unfold own_pick
  rcases own_bit01 m k with q | q
  · rw [if_pos q, q]; show lo.toInt = lo.toInt + 0 * _; omega
  · rw [if_neg (by rw [q]; decide), q]; show hi.toInt = lo.toInt + 1 * _; omega
theorem own_pkB {m k : Int32} {lo hi : Int64} (hl : 0 ≤ lo.toInt ∧ lo.toInt < 30000000000) (hh : ¬ hi < lo ∧ 0 ≤ hi.toInt ∧ hi.toInt < 60000000000) : 0 ≤ (own_pick m k lo hi).toInt ∧ (own_pick m k lo hi).toInt < 60000000000 := by
  unfold own_pick; split
  · omega
  · exact hh.2
theorem own_acc {x y : Int64} {B : Int} (h1 : 0 ≤ x.toInt) (h2 : x.toInt ≤ B) (hB : B ≤ 600000000000) (hy : 0 ≤ y.toInt ∧ y.toInt < 60000000000) : (x + y).toInt = x.toInt + y.toInt ∧ 0 ≤ (x + y).toInt ∧ (x + y).toInt ≤ B + 60000000000 := by
  have : (x + y).toInt = x.toInt + y.toInt := XT.add64 (by unfold XT.fits64; omega)
  omega
theorem own_fin2 {m hO hN hA : Int32} {lo hi el2 : Int64} (hl : 0 ≤ lo.toInt ∧ lo.toInt < 30000000000) (hh : ¬ hi < lo ∧ 0 ≤ hi.toInt ∧ hi.toInt < 60000000000)
    (h1 : hO = own_bit m (0 : Int32) + own_bit m (1 : Int32) + own_bit m (2 : Int32) + own_bit m (3 : Int32) + own_bit m (4 : Int32)) (h2 : hN = own_bit m (5 : Int32) + own_bit m (6 : Int32) + own_bit m (7 : Int32) + own_bit m (8 : Int32) + own_bit m (9 : Int32)) (h3 : hA = hO + hN)
    (h4 : el2 = (hA.toInt64 * hi) + (((10 : Int32) - hA).toInt64 * lo)) :
    (0 : Int64) + own_pick m (0 : Int32) lo hi + own_pick m (1 : Int32) lo hi + own_pick m (2 : Int32) lo hi + own_pick m (3 : Int32) lo hi + own_pick m (4 : Int32) lo hi + own_pick m (5 : Int32) lo hi + own_pick m (6 : Int32) lo hi + own_pick m (7 : Int32) lo hi + own_pick m (8 : Int32) lo hi + own_pick m (9 : Int32) lo hi = el2 := by
  have f1 := own_five (own_bit01 m 0) (own_bit01 m 1) (own_bit01 m 2) (own_bit01 m 3) (own_bit01 m 4)
  have f2 := own_five (own_bit01 m 5) (own_bit01 m 6) (own_bit01 m 7) (own_bit01 m 8) (own_bit01 m 9)
  rw [← h1] at f1; rw [← h2] at f2
  have eA : hA.toInt = hO.toInt + hN.toInt := by rw [h3]; exact XT.add32 (by unfold XT.fits32; omega)
  have eT : ((10 : Int32) - hA).toInt = 10 - hA.toInt := XT.sub32 (x := 10) (by show XT.fits32 (10 - _); unfold XT.fits32; omega)
  have z : (0 : Int64).toInt = 0 := by decide
  have a0 := own_acc (x := 0) (B := 0) (by decide) (by decide) (by decide) (own_pkB (m := m) (k := 0) hl hh)
  have a1 := own_acc a0.2.1 a0.2.2 (by decide) (own_pkB (m := m) (k := 1) hl hh)
  have a2 := own_acc a1.2.1 a1.2.2 (by decide) (own_pkB (m := m) (k := 2) hl hh)
  have a3 := own_acc a2.2.1 a2.2.2 (by decide) (own_pkB (m := m) (k := 3) hl hh)
  have a4 := own_acc a3.2.1 a3.2.2 (by decide) (own_pkB (m := m) (k := 4) hl hh)
  have a5 := own_acc a4.2.1 a4.2.2 (by decide) (own_pkB (m := m) (k := 5) hl hh)
  have a6 := own_acc a5.2.1 a5.2.2 (by decide) (own_pkB (m := m) (k := 6) hl hh)
  have a7 := own_acc a6.2.1 a6.2.2 (by decide) (own_pkB (m := m) (k := 7) hl hh)
  have a8 := own_acc a7.2.1 a7.2.2 (by decide) (own_pkB (m := m) (k := 8) hl hh)
  have a9 := own_acc a8.2.1 a8.2.2 (by decide) (own_pkB (m := m) (k := 9) hl hh)
  have hA0 : 0 ≤ hA.toInt ∧ hA.toInt ≤ 10 := by omega
  have p1 : (hA.toInt64 * hi).toInt = hA.toInt * hi.toInt := by
    have b1 : 0 ≤ hA.toInt * hi.toInt := Int.mul_nonneg hA0.1 hh.2.1
    have b2 : hA.toInt * hi.toInt ≤ 10 * hi.toInt := Int.mul_le_mul_of_nonneg_right hA0.2 hh.2.1
    rw [XT.mul64 (by rw [Int32.toInt_toInt64]; unfold XT.fits64; omega), Int32.toInt_toInt64]
  have p2 : (((10 : Int32) - hA).toInt64 * lo).toInt = (10 - hA.toInt) * lo.toInt := by
    have b1 : 0 ≤ (10 - hA.toInt) * lo.toInt := Int.mul_nonneg (by omega) hl.1
    have b2 : (10 - hA.toInt) * lo.toInt ≤ 10 * lo.toInt := Int.mul_le_mul_of_nonneg_right (by omega) hl.1
    rw [XT.mul64 (by rw [Int32.toInt_toInt64, eT]; unfold XT.fits64; omega), Int32.toInt_toInt64, eT]
  have b1 : 0 ≤ hA.toInt * hi.toInt := Int.mul_nonneg hA0.1 hh.2.1
  have b2 : hA.toInt * hi.toInt ≤ 10 * hi.toInt := Int.mul_le_mul_of_nonneg_right hA0.2 hh.2.1
  have b3 : 0 ≤ (10 - hA.toInt) * lo.toInt := Int.mul_nonneg (by omega) hl.1
  have b4 : (10 - hA.toInt) * lo.toInt ≤ 10 * lo.toInt := Int.mul_le_mul_of_nonneg_right (by omega) hl.1
  have eE : el2.toInt = hA.toInt * hi.toInt + (10 - hA.toInt) * lo.toInt := by rw [h4, XT.add64 (by rw [p1, p2]; unfold XT.fits64; omega), p1, p2]
  apply Int64.toInt_inj.mp
  rw [eE, a9.1, a8.1, a7.1, a6.1, a5.1, a4.1, a3.1, a2.1, a1.1, a0.1, z]
  simp only [own_pkI]
  have sA : hA.toInt = (own_bit m 0).toInt + (own_bit m 1).toInt + (own_bit m 2).toInt + (own_bit m 3).toInt + (own_bit m 4).toInt + (own_bit m 5).toInt + (own_bit m 6).toInt + (own_bit m 7).toInt + (own_bit m 8).toInt + (own_bit m 9).toInt := by omega
  have r : hA.toInt * hi.toInt + (10 - hA.toInt) * lo.toInt = 10 * lo.toInt + hA.toInt * (hi.toInt - lo.toInt) := by rw [Int.sub_mul, Int.mul_sub]; omega
  rw [r, sA]; simp only [Int.add_mul]; omega

theorem own_W10 (g : Int32 → Int64) (w : Nat → Int64) (i : Nat) (hi : i < (10 : Int32).toNatClampNeg) : own_L (own_setw (own_setw (own_setw (own_setw (own_setw (own_setw (own_setw (own_setw (own_setw (own_setw w 0 (g (0 : Int32))) 1 (g (1 : Int32))) 2 (g (2 : Int32))) 3 (g (3 : Int32))) 4 (g (4 : Int32))) 5 (g (5 : Int32))) 6 (g (6 : Int32))) 7 (g (7 : Int32))) 8 (g (8 : Int32))) 9 (g (9 : Int32))) i = own_L (fun i => g (Int32.ofNat i)) i :=
  match i, hi with
  | 0, _ => rfl
  | 1, _ => rfl
  | 2, _ => rfl
  | 3, _ => rfl
  | 4, _ => rfl
  | 5, _ => rfl
  | 6, _ => rfl
  | 7, _ => rfl
  | 8, _ => rfl
  | 9, _ => rfl
  | (n_ + 10), q_ => absurd q_ (by show ¬ n_ + 10 < 10; omega)

theorem own_d_prog_120_method_1_code_0 : decode prog_120_method_1_code 0 = .ok (.aload_n 0, 1) := by decide +kernel
theorem own_d_prog_120_method_1_code_1 : decode prog_120_method_1_code 1 = .ok (.invokespecial 1, 3) := by decide +kernel
theorem own_d_prog_120_method_1_code_4 : decode prog_120_method_1_code 4 = .ok (.aload_n 0, 1) := by decide +kernel
theorem own_d_prog_120_method_1_code_5 : decode prog_120_method_1_code 5 = .ok (.bipush 10, 2) := by decide +kernel
theorem own_d_prog_120_method_1_code_7 : decode prog_120_method_1_code 7 = .ok (.newarray .long, 2) := by decide +kernel
theorem own_d_prog_120_method_1_code_9 : decode prog_120_method_1_code 9 = .ok (.putfield 9, 3) := by decide +kernel
theorem own_d_prog_120_method_1_code_12 : decode prog_120_method_1_code 12 = .ok (.iload_n 1, 1) := by decide +kernel
theorem own_d_prog_120_method_1_code_13 : decode prog_120_method_1_code 13 = .ok (.iconst 1, 1) := by decide +kernel
theorem own_d_prog_120_method_1_code_14 : decode prog_120_method_1_code 14 = .ok (.if_icmp .ge 17, 3) := by decide +kernel
theorem own_d_prog_120_method_1_code_31 : decode prog_120_method_1_code 31 = .ok (.aload_n 0, 1) := by decide +kernel
theorem own_d_prog_120_method_1_code_32 : decode prog_120_method_1_code 32 = .ok (.ldc2_w 22, 3) := by decide +kernel
theorem own_d_prog_120_method_1_code_35 : decode prog_120_method_1_code 35 = .ok (.iload_n 1, 1) := by decide +kernel
theorem own_d_prog_120_method_1_code_36 : decode prog_120_method_1_code 36 = .ok (.i2l, 1) := by decide +kernel
theorem own_d_prog_120_method_1_code_37 : decode prog_120_method_1_code 37 = .ok (.ladd, 1) := by decide +kernel
theorem own_d_prog_120_method_1_code_38 : decode prog_120_method_1_code 38 = .ok (.lconst 1, 1) := by decide +kernel
theorem own_d_prog_120_method_1_code_39 : decode prog_120_method_1_code 39 = .ok (.lsub, 1) := by decide +kernel
theorem own_d_prog_120_method_1_code_40 : decode prog_120_method_1_code 40 = .ok (.iload_n 1, 1) := by decide +kernel
theorem own_d_prog_120_method_1_code_41 : decode prog_120_method_1_code 41 = .ok (.i2l, 1) := by decide +kernel
theorem own_d_prog_120_method_1_code_42 : decode prog_120_method_1_code 42 = .ok (.ldiv, 1) := by decide +kernel
theorem own_d_prog_120_method_1_code_43 : decode prog_120_method_1_code 43 = .ok (.putfield 24, 3) := by decide +kernel
theorem own_d_prog_120_method_1_code_46 : decode prog_120_method_1_code 46 = .ok (.return_, 1) := by decide +kernel
theorem own_pn0 : plainName "com/example/locator/locator/cli/WarmUp" = true := by first | (simp [plainName, overriddenIn]; done) | decide +kernel
theorem own_ef_rm1 (m : MethodId) (x0 : Addr) (x1 : Int32) : entryFrame m #[(.ref x0), (.int x1)] 2 = mkF m 0 #[.val (.ref x0), .val (.int x1)] [] := by first | (simp [entryFrame, mkF, argsToLocals, Value.category]; done) | rfl
def own_Q_rm1 (Z : State) (a1 : Addr) (p2 : Int32) (h0 : Heap) (n0 : Nat) (v : Option Value) (h : Heap) (L : List Loc) : Prop := v = none ∧ Fr n0 L ∧ Keep h0 h [a1] ∧ ∃ (b : Addr) (k : ClassId), h0.size ≤ b ∧ Fld Z h a1 "com/example/locator/locator/cli/WarmUp" "recent" "[J" (.ref b) ∧ Fld Z h a1 "com/example/locator/locator/cli/WarmUp" "passesNeeded" "J" (.long (own_need p2)) ∧ Fld Z h a1 "com/example/locator/locator/cli/WarmUp" "passes" "J" (.long (0 : Int64)) ∧ Fld Z h a1 "com/example/locator/locator/cli/WarmUp" "elapsed" "J" (.long (0 : Int64)) ∧ Arf Z h b k .long 10 (own_L fun _ => 0)
set_option maxRecDepth 65536 in
set_option maxHeartbeats 40000000 in
theorem rm1 (l : Launch) (Z : State) (a0 : Array Value) (hw : ∀ d ∈ tables_1, d.before a0 Z = true) (ws : List Jvm.Cond) (a1 : Addr) (p2 : Int32) (h0 : Heap) (n0 : Nat) (Z0 : n0 ≤ h0.size) (E_a1 : Exa Z h0 a1 "com/example/locator/locator/cli/WarmUp") (F_recent_a1 : Fld Z h0 a1 "com/example/locator/locator/cli/WarmUp" "recent" "[J" .null) (F_passesNeeded_a1 : Fld Z h0 a1 "com/example/locator/locator/cli/WarmUp" "passesNeeded" "J" (.long (0 : Int64))) (F_passes_a1 : Fld Z h0 a1 "com/example/locator/locator/cli/WarmUp" "passes" "J" (.long (0 : Int64))) (F_elapsed_a1 : Fld Z h0 a1 "com/example/locator/locator/cli/WarmUp" "elapsed" "J" (.long (0 : Int64))) (g_a1 : n0 ≤ a1) (h1 : ¬ p2 < 1) (h2 : p2.toInt64 ≠ 0) :
    OMet l Z (⟨"com/example/locator/locator/cli/WarmUp", "<init>", "(I)V"⟩ : MethodName) prog_120_method_1_code 2 none ws ({ frames := 1, cells := 1, slots := 10, locals := 12 } : Room) #[(.ref a1), (.int p2)] h0 (own_Q_rm1 Z a1 p2 h0 n0) := by
  refine MetFree.of_bodySF (plainFor_of_name own_pn0) hisR ?_
  intro p e s m args below meth c s₁ Bd hml0 hP hK
  obtain ⟨rfl, hZ, hh⟩ := hP
  have hx := Bd.exec
  have hby := Bd.bytes
  have hml : c.maxLocals = 2 := hml0
  have hown : s.vm.findClass "com/example/locator/locator/cli/WarmUp" = some m.cls := findClass_of_methodNamed Bd.named
  have hnm := (name_of_methodNamed Bd.named Bd.method).1
  have hlk : meth.locks = false := Bd.notSynchronized
  have X0 : Stand p l e ({ frames := 1, cells := 1, slots := 10, locals := 12 } : Room) s m #[(.ref a1), (.int p2)] below meth c s₁ [] 0 0 := Stand.of_body Bd
  have e0 : s₁.heap = h0 := by rw [← hh, Bd.state]; rfl
  have N0 := Fr.nil n0
  refine OGo.enter (P := OPost s (own_Q_rm1 Z a1 p2 h0 n0) 1 10) (own_ef_rm1 m a1 p2) ?_
  show OGo p.tables e below _ (s₁.setTop (mkF m 0 #[.val (.ref a1), .val (.int p2)] []))
  refine OGo.st (fun _ k_ => XS.aloadN X0.here hx rfl (hb hby own_d_prog_120_method_1_code_0) rfl rfl k_) ?_
  show OGo p.tables e below _ (s₁.setTop (mkF m 1 #[.val (.ref a1), .val (.int p2)] [(.ref a1)]))
  obtain ⟨T1, X1, ez1, st1⟩ := initO X0 hx hZ hown (hw _ (List.mem_of_getElem? (i := 8) rfl)) (hw _ (List.mem_of_getElem? (i := 9) rfl)) (hw _ (List.mem_of_getElem? (i := 10) rfl)) e0 (g := (mkF m 1 #[.val (.ref a1), .val (.int p2)] [(.ref a1)])) rfl (by rw [hml]; rfl) rfl (hb hby own_d_prog_120_method_1_code_1) (by decide) (W := 0) (by show 2 * 0 + _ ≤ _; exact Nat.le_of_eq rfl) (by decide)
  refine OGo.st st1 ?_
  show OGo p.tables e below _ (T1.setTop (mkF m 4 #[.val (.ref a1), .val (.int p2)] []))
  refine OGo.st (fun _ k_ => XS.aloadN X1.here hx rfl (hb hby own_d_prog_120_method_1_code_4) rfl rfl k_) ?_
  show OGo p.tables e below _ (T1.setTop (mkF m 5 #[.val (.ref a1), .val (.int p2)] [(.ref a1)]))
  refine OGo.st (fun _ k_ => XS.bipush X1.here hx rfl (hb hby own_d_prog_120_method_1_code_5) k_) ?_
  show OGo p.tables e below _ (T1.setTop (mkF m 7 #[.val (.ref a1), .val (.int p2)] [(.int (10 : Int32)), (.ref a1)]))
  obtain ⟨T2, hz2, kz2, X2, ez2, Ez2, Az2, st2⟩ := newP X1 hx hZ (hw _ (List.mem_of_getElem? (i := 11) rfl)) ez1 (g := (mkF m 7 #[.val (.ref a1), .val (.int p2)] [(.int (10 : Int32)), (.ref a1)])) rfl (hb hby own_d_prog_120_method_1_code_7) rfl (by decide) (cap := 10) (by decide) (by decide) (by decide) (by decide)
  obtain ⟨bz2, g2⟩ : ∃ z, z = h0.size := ⟨_, rfl⟩
  rw [← g2] at Az2 st2
  have lt_a1_bz2 : @LT.lt Nat instLTNat a1 bz2 := Nat.lt_of_lt_of_le E_a1.lt (Nat.le_of_eq g2.symm)
  have g_bz2 : n0 ≤ bz2 := Nat.le_trans (Nat.le_trans Z0 (Keep.refl h0 [a1]).1) (Nat.le_of_eq g2.symm)
  have sz_bz2 : h0.size ≤ bz2 := Nat.le_trans (Keep.refl h0 [a1]).1 (Nat.le_of_eq g2.symm)
  have Ex_3 := E_a1.ext Ez2
  have F_4 := F_recent_a1.ext Ez2
  have F_5 := F_passesNeeded_a1.ext Ez2
  have F_6 := F_passes_a1.ext Ez2
  have F_7 := F_elapsed_a1.ext Ez2
  have K_8 : Keep h0 hz2 [a1] := (Keep.refl h0 [a1]).ext Ez2
  have V_bz2 : Arf Z hz2 bz2 kz2 .long (10 : Int32) (fun _ => (.long (0 : Int64))) := own_new Az2 (by decide)
  refine OGo.st st2 ?_
  show OGo p.tables e below _ (T2.setTop (mkF m 9 #[.val (.ref a1), .val (.int p2)] [(.ref bz2), (.ref a1)]))
  obtain ⟨T9, hz9, X9, ez9, W9, st9⟩ := putF X2 hx hZ hown (host := "") (Or.inl (hw _ (List.mem_of_getElem? (i := 12) rfl))) Via.refl ez2 F_4 Ex_3 (Or.inr ⟨(hw _ (List.mem_of_getElem? (i := 13) rfl)), rfl, hnm⟩) (hw _ (List.mem_of_getElem? (i := 3) rfl)) (ty := (.array .long)) (by decide) rfl rfl (g := (mkF m 9 #[.val (.ref a1), .val (.int p2)] [(.ref bz2), (.ref a1)])) rfl rfl (hb hby own_d_prog_120_method_1_code_9)
  have Fw9 : Fld Z hz9 a1 "com/example/locator/locator/cli/WarmUp" "recent" "[J" (.ref bz2) := F_4.same W9
  have Ex_10 := Ex_3.wr W9
  have F_11 := F_5.other W9 (Or.inr (slot_ne (Or.inr (hw _ (List.mem_of_getElem? (i := 16) rfl))) (Or.inr (hw _ (List.mem_of_getElem? (i := 13) rfl))) (by decide) (t := .long) (t' := (.array .long)) (by decide) (by decide)))
  have F_12 := F_6.other W9 (Or.inr (slot_ne (Or.inl (hw _ (List.mem_of_getElem? (i := 30) rfl))) (Or.inr (hw _ (List.mem_of_getElem? (i := 13) rfl))) (by decide) (t := .long) (t' := (.array .long)) (by decide) (by decide)))
  have F_13 := F_7.other W9 (Or.inr (slot_ne (Or.inl (hw _ (List.mem_of_getElem? (i := 32) rfl))) (Or.inr (hw _ (List.mem_of_getElem? (i := 13) rfl))) (by decide) (t := .long) (t' := (.array .long)) (by decide) (by decide)))
  have Af_14 := V_bz2.other W9 (Ne.symm (Nat.ne_of_lt lt_a1_bz2))
  have N9 := Fr.snoc X9 N0 g_a1
  have K_15 : Keep h0 hz9 [a1] := K_8.wr W9 (Or.inl (List.mem_of_getElem? (i := 0) rfl))
  refine OGo.st st9 ?_
  show OGo p.tables e below _ (T9.setTop (mkF m 12 #[.val (.ref a1), .val (.int p2)] []))
  refine OGo.st (fun _ k_ => XS.iloadN X9.here hx rfl (hb hby own_d_prog_120_method_1_code_12) rfl k_) ?_
  show OGo p.tables e below _ (T9.setTop (mkF m 13 #[.val (.ref a1), .val (.int p2)] [(.int p2)]))
  refine OGo.st (fun _ k_ => XS.iconst X9.here hx rfl (hb hby own_d_prog_120_method_1_code_13) k_) ?_
  show OGo p.tables e below _ (T9.setTop (mkF m 14 #[.val (.ref a1), .val (.int p2)] [(.int (1 : Int32)), (.int p2)]))
  refine OGo.st (fun _ k_ => XS.icmpYes X9.here hx rfl (pc0 := 14) (pc' := 31) rfl (hb hby own_d_prog_120_method_1_code_14) rfl (XT.ii_ge_t h1) (by decide) (by decide) k_) ?_
  show OGo p.tables e below _ (T9.setTop (mkF m 31 #[.val (.ref a1), .val (.int p2)] []))
  refine OGo.st (fun _ k_ => XS.aloadN X9.here hx rfl (hb hby own_d_prog_120_method_1_code_31) rfl rfl k_) ?_
  show OGo p.tables e below _ (T9.setTop (mkF m 32 #[.val (.ref a1), .val (.int p2)] [(.ref a1)]))
  refine OGo.st (fun _ k_ => X9.ldc2J hx hown (mvT hZ (hw _ (List.mem_of_getElem? (i := 14) rfl))) rfl (hb hby own_d_prog_120_method_1_code_32) k_) ?_
  show OGo p.tables e below _ (T9.setTop (mkF m 35 #[.val (.ref a1), .val (.int p2)] [(.long (10000 : Int64)), (.ref a1)]))
  refine OGo.st (fun _ k_ => XS.iloadN X9.here hx rfl (hb hby own_d_prog_120_method_1_code_35) rfl k_) ?_
  show OGo p.tables e below _ (T9.setTop (mkF m 36 #[.val (.ref a1), .val (.int p2)] [(.int p2), (.long (10000 : Int64)), (.ref a1)]))
  refine OGo.st (fun _ k_ => XS.i2l X9.here hx rfl (hb hby own_d_prog_120_method_1_code_36) rfl k_) ?_
  show OGo p.tables e below _ (T9.setTop (mkF m 37 #[.val (.ref a1), .val (.int p2)] [(.long p2.toInt64), (.long (10000 : Int64)), (.ref a1)]))
  refine OGo.st (fun _ k_ => XS.ladd X9.here hx rfl (hb hby own_d_prog_120_method_1_code_37) rfl k_) ?_
  show OGo p.tables e below _ (T9.setTop (mkF m 38 #[.val (.ref a1), .val (.int p2)] [(.long ((10000 : Int64) + p2.toInt64)), (.ref a1)]))
  refine OGo.st (fun _ k_ => XS.lconst X9.here hx rfl (hb hby own_d_prog_120_method_1_code_38) k_) ?_
  show OGo p.tables e below _ (T9.setTop (mkF m 39 #[.val (.ref a1), .val (.int p2)] [(.long (1 : Int64)), (.long ((10000 : Int64) + p2.toInt64)), (.ref a1)]))
  refine OGo.st (fun _ k_ => XS.lsub X9.here hx rfl (hb hby own_d_prog_120_method_1_code_39) rfl k_) ?_
  show OGo p.tables e below _ (T9.setTop (mkF m 40 #[.val (.ref a1), .val (.int p2)] [(.long (((10000 : Int64) + p2.toInt64) - (1 : Int64))), (.ref a1)]))
  refine OGo.st (fun _ k_ => XS.iloadN X9.here hx rfl (hb hby own_d_prog_120_method_1_code_40) rfl k_) ?_
  show OGo p.tables e below _ (T9.setTop (mkF m 41 #[.val (.ref a1), .val (.int p2)] [(.int p2), (.long (((10000 : Int64) + p2.toInt64) - (1 : Int64))), (.ref a1)]))
  refine OGo.st (fun _ k_ => XS.i2l X9.here hx rfl (hb hby own_d_prog_120_method_1_code_41) rfl k_) ?_
  show OGo p.tables e below _ (T9.setTop (mkF m 42 #[.val (.ref a1), .val (.int p2)] [(.long p2.toInt64), (.long (((10000 : Int64) + p2.toInt64) - (1 : Int64))), (.ref a1)]))
  refine OGo.st (fun _ k_ => XS.ldiv X9.here hx rfl (hb hby own_d_prog_120_method_1_code_42) rfl h2 k_) ?_
  show OGo p.tables e below _ (T9.setTop (mkF m 43 #[.val (.ref a1), .val (.int p2)] [(.long ((((10000 : Int64) + p2.toInt64) - (1 : Int64)) / p2.toInt64)), (.ref a1)]))
  obtain ⟨T16, hz16, X16, ez16, W16, st16⟩ := putF X9 hx hZ hown (host := "") (Or.inl (hw _ (List.mem_of_getElem? (i := 15) rfl))) Via.refl ez9 F_11 Ex_10 (Or.inr ⟨(hw _ (List.mem_of_getElem? (i := 16) rfl)), rfl, hnm⟩) (hw _ (List.mem_of_getElem? (i := 3) rfl)) (ty := .long) (by decide) rfl rfl (g := (mkF m 43 #[.val (.ref a1), .val (.int p2)] [(.long ((((10000 : Int64) + p2.toInt64) - (1 : Int64)) / p2.toInt64)), (.ref a1)])) rfl rfl (hb hby own_d_prog_120_method_1_code_43)
  have Fw16 : Fld Z hz16 a1 "com/example/locator/locator/cli/WarmUp" "passesNeeded" "J" (.long ((((10000 : Int64) + p2.toInt64) - (1 : Int64)) / p2.toInt64)) := F_11.same W16
  have Ex_17 := Ex_10.wr W16
  have F_18 := F_12.other W16 (Or.inr (slot_ne (Or.inl (hw _ (List.mem_of_getElem? (i := 30) rfl))) (Or.inr (hw _ (List.mem_of_getElem? (i := 16) rfl))) (by decide) (t := .long) (t' := .long) (by decide) (by decide)))
  have F_19 := F_13.other W16 (Or.inr (slot_ne (Or.inl (hw _ (List.mem_of_getElem? (i := 32) rfl))) (Or.inr (hw _ (List.mem_of_getElem? (i := 16) rfl))) (by decide) (t := .long) (t' := .long) (by decide) (by decide)))
  have Af_20 := Af_14.other W16 (Ne.symm (Nat.ne_of_lt lt_a1_bz2))
  have F_21 := Fw9.other W16 (Or.inr (slot_ne (Or.inr (hw _ (List.mem_of_getElem? (i := 13) rfl))) (Or.inr (hw _ (List.mem_of_getElem? (i := 16) rfl))) (by decide) (t := (.array .long)) (t' := .long) (by decide) (by decide)))
  have N16 := Fr.snoc X16 N9 g_a1
  have K_22 : Keep h0 hz16 [a1] := K_15.wr W16 (Or.inl (List.mem_of_getElem? (i := 0) rfl))
  refine OGo.st st16 ?_
  show OGo p.tables e below _ (T16.setTop (mkF m 46 #[.val (.ref a1), .val (.int p2)] []))
  refine OGo.fin X16 (v := none) (fun _ => rfl) hlk (fun fs hr => X16.returnOut hx Bd.returns (hb hby own_d_prog_120_method_1_code_46) hr) ?_ (by decide) (by decide)
  show own_Q_rm1 Z a1 p2 h0 n0 _ T16.heap _
  rw [ez16]
  exact ⟨rfl, N16, K_22, _, _, sz_bz2, F_21, Fw16, F_18, F_19, Af_20⟩
theorem own_d_method_2_code_0 : decode method_2_code 0 = .ok (.iload_n 0, 1) := by decide +kernel
theorem own_d_method_2_code_1 : decode method_2_code 1 = .ok (.iload_n 1, 1) := by decide +kernel
theorem own_d_method_2_code_2 : decode method_2_code 2 = .ok (.iushr, 1) := by decide +kernel
theorem own_d_method_2_code_3 : decode method_2_code 3 = .ok (.iconst 1, 1) := by decide +kernel
theorem own_d_method_2_code_4 : decode method_2_code 4 = .ok (.iand, 1) := by decide +kernel
theorem own_d_method_2_code_5 : decode method_2_code 5 = .ok (.ireturn, 1) := by decide +kernel
theorem own_pn1 : plainName "com/example/locator/locator/cli/WarmUpPassedPinLaw" = true := by first | (simp [plainName, overriddenIn]; done) | decide +kernel
theorem own_ef_rm2 (m : MethodId) (x0 : Int32) (x1 : Int32) : entryFrame m #[(.int x0), (.int x1)] 2 = mkF m 0 #[.val (.int x0), .val (.int x1)] [] := by first | (simp [entryFrame, mkF, argsToLocals, Value.category]; done) | rfl
def own_Q_rm2 (Z : State) (p1 p2 : Int32) (h0 : Heap) (n0 : Nat) (v : Option Value) (h : Heap) (L : List Loc) : Prop := v = some (.int (own_bit p1 p2)) ∧ Fr n0 L ∧ h = h0
set_option maxRecDepth 65536 in
set_option maxHeartbeats 40000000 in
theorem rm2 (l : Launch) (Z : State) (a0 : Array Value) (hw : ∀ d ∈ tables_1, d.before a0 Z = true) (ws : List Jvm.Cond) (p1 p2 : Int32) (h0 : Heap) (n0 : Nat) (Z0 : n0 ≤ h0.size)  :
    OMet l Z (⟨"com/example/locator/locator/cli/WarmUpPassedPinLaw", "bit", "(II)I"⟩ : MethodName) method_2_code 2 (some .int) ws ({ frames := 0, cells := 0, slots := 0, locals := 0 } : Room) #[(.int p1), (.int p2)] h0 (own_Q_rm2 Z p1 p2 h0 n0) := by
  refine MetFree.of_bodySF (plainFor_of_name own_pn1) hisR ?_
  intro p e s m args below meth c s₁ Bd hml0 hP hK
  obtain ⟨rfl, hZ, hh⟩ := hP
  have hx := Bd.exec
  have hby := Bd.bytes
  have hml : c.maxLocals = 2 := hml0
  have hown : s.vm.findClass "com/example/locator/locator/cli/WarmUpPassedPinLaw" = some m.cls := findClass_of_methodNamed Bd.named
  have hnm := (name_of_methodNamed Bd.named Bd.method).1
  have hlk : meth.locks = false := Bd.notSynchronized
  have X0 : Stand p l e ({ frames := 0, cells := 0, slots := 0, locals := 0 } : Room) s m #[(.int p1), (.int p2)] below meth c s₁ [] 0 0 := Stand.of_body Bd
  have e0 : s₁.heap = h0 := by rw [← hh, Bd.state]; rfl
  have N0 := Fr.nil n0
  refine OGo.enter (P := OPost s (own_Q_rm2 Z p1 p2 h0 n0) 0 0) (own_ef_rm2 m p1 p2) ?_
  show OGo p.tables e below _ (s₁.setTop (mkF m 0 #[.val (.int p1), .val (.int p2)] []))
  refine OGo.st (fun _ k_ => XS.iloadN X0.here hx rfl (hb hby own_d_method_2_code_0) rfl k_) ?_
  show OGo p.tables e below _ (s₁.setTop (mkF m 1 #[.val (.int p1), .val (.int p2)] [(.int p1)]))
  refine OGo.st (fun _ k_ => XS.iloadN X0.here hx rfl (hb hby own_d_method_2_code_1) rfl k_) ?_
  show OGo p.tables e below _ (s₁.setTop (mkF m 2 #[.val (.int p1), .val (.int p2)] [(.int p2), (.int p1)]))
  refine OGo.st (fun _ k_ => XS.iushr X0.here hx rfl (hb hby own_d_method_2_code_2) rfl k_) ?_
  show OGo p.tables e below _ (s₁.setTop (mkF m 3 #[.val (.int p1), .val (.int p2)] [(.int ((p1.toUInt32 >>> (p2 &&& 31).toUInt32).toInt32))]))
  refine OGo.st (fun _ k_ => XS.iconst X0.here hx rfl (hb hby own_d_method_2_code_3) k_) ?_
  show OGo p.tables e below _ (s₁.setTop (mkF m 4 #[.val (.int p1), .val (.int p2)] [(.int (1 : Int32)), (.int ((p1.toUInt32 >>> (p2 &&& 31).toUInt32).toInt32))]))
  refine OGo.st (fun _ k_ => XS.iand X0.here hx rfl (hb hby own_d_method_2_code_4) rfl k_) ?_
  show OGo p.tables e below _ (s₁.setTop (mkF m 5 #[.val (.int p1), .val (.int p2)] [(.int (((p1.toUInt32 >>> (p2 &&& 31).toUInt32).toInt32) &&& (1 : Int32)))]))
  refine OGo.fin X0 (v := some (.int (((p1.toUInt32 >>> (p2 &&& 31).toUInt32).toInt32) &&& (1 : Int32)))) (fun h => by rw [Bd.returns] at h; cases h) hlk (fun fs hr => X0.ireturnOut hx Bd.returns rfl (Or.inl rfl) (hb hby own_d_method_2_code_5) hr) ?_ (by decide) (by decide)
  show own_Q_rm2 Z p1 p2 h0 n0 _ s₁.heap _
  rw [e0]
  exact ⟨rfl, N0, rfl⟩
theorem own_d_method_3_code_0 : decode method_3_code 0 = .ok (.iload_n 0, 1) := by decide +kernel
theorem own_d_method_3_code_1 : decode method_3_code 1 = .ok (.iload_n 1, 1) := by decide +kernel
theorem own_d_method_3_code_2 : decode method_3_code 2 = .ok (.invokestatic 7, 3) := by decide +kernel
theorem own_pd0 : parseMethodDescriptor "(II)I" = some ⟨[.int, .int], some .int⟩ := by decide +kernel
theorem own_d_method_3_code_5 : decode method_3_code 5 = .ok (.ifCond .eq 8, 3) := by decide +kernel
theorem own_d_method_3_code_13 : decode method_3_code 13 = .ok (.lload_n 2, 1) := by decide +kernel
theorem own_d_method_3_code_14 : decode method_3_code 14 = .ok (.lreturn, 1) := by decide +kernel
theorem own_d_method_3_code_8 : decode method_3_code 8 = .ok (.lload 4, 2) := by decide +kernel
theorem own_d_method_3_code_10 : decode method_3_code 10 = .ok (.goto 4, 3) := by decide +kernel
theorem own_ef_rm3 (m : MethodId) (x0 : Int32) (x1 : Int32) (x2 : Int64) (x3 : Int64) : entryFrame m #[(.int x0), (.int x1), (.long x2), (.long x3)] 6 = mkF m 0 #[.val (.int x0), .val (.int x1), .val (.long x2), .second, .val (.long x3), .second] [] := by first | (simp [entryFrame, mkF, argsToLocals, Value.category]; done) | rfl
def own_Q_rm3 (Z : State) (p1 p2 : Int32) (q3 q4 : Int64) (h0 : Heap) (n0 : Nat) (v : Option Value) (h : Heap) (L : List Loc) : Prop := v = some (.long (own_pick p1 p2 q3 q4)) ∧ Fr n0 L ∧ h = h0
set_option maxRecDepth 65536 in
set_option maxHeartbeats 40000000 in
theorem rm3 (l : Launch) (Z : State) (a0 : Array Value) (hw : ∀ d ∈ tables_1, d.before a0 Z = true) (ws : List Jvm.Cond) (p1 p2 : Int32) (q3 q4 : Int64) (h0 : Heap) (n0 : Nat) (Z0 : n0 ≤ h0.size)  :
    OMet l Z (⟨"com/example/locator/locator/cli/WarmUpPassedPinLaw", "pick", "(IIJJ)J"⟩ : MethodName) method_3_code 6 (some .long) ws ({ frames := 1, cells := 0, slots := 0, locals := 13 } : Room) #[(.int p1), (.int p2), (.long q3), (.long q4)] h0 (own_Q_rm3 Z p1 p2 q3 q4 h0 n0) := by
  refine MetFree.of_bodySF (plainFor_of_name own_pn1) hisR ?_
  intro p e s m args below meth c s₁ Bd hml0 hP hK
  obtain ⟨rfl, hZ, hh⟩ := hP
  have hx := Bd.exec
  have hby := Bd.bytes
  have hml : c.maxLocals = 6 := hml0
  have hown : s.vm.findClass "com/example/locator/locator/cli/WarmUpPassedPinLaw" = some m.cls := findClass_of_methodNamed Bd.named
  have hnm := (name_of_methodNamed Bd.named Bd.method).1
  have hlk : meth.locks = false := Bd.notSynchronized
  have X0 : Stand p l e ({ frames := 1, cells := 0, slots := 0, locals := 13 } : Room) s m #[(.int p1), (.int p2), (.long q3), (.long q4)] below meth c s₁ [] 0 0 := Stand.of_body Bd
  have e0 : s₁.heap = h0 := by rw [← hh, Bd.state]; rfl
  have N0 := Fr.nil n0
  refine OGo.enter (P := OPost s (own_Q_rm3 Z p1 p2 q3 q4 h0 n0) 0 0) (own_ef_rm3 m p1 p2 q3 q4) ?_
  show OGo p.tables e below _ (s₁.setTop (mkF m 0 #[.val (.int p1), .val (.int p2), .val (.long q3), .second, .val (.long q4), .second] []))
  refine OGo.st (fun _ k_ => XS.iloadN X0.here hx rfl (hb hby own_d_method_3_code_0) rfl k_) ?_
  show OGo p.tables e below _ (s₁.setTop (mkF m 1 #[.val (.int p1), .val (.int p2), .val (.long q3), .second, .val (.long q4), .second] [(.int p1)]))
  refine OGo.st (fun _ k_ => XS.iloadN X0.here hx rfl (hb hby own_d_method_3_code_1) rfl k_) ?_
  show OGo p.tables e below _ (s₁.setTop (mkF m 2 #[.val (.int p1), .val (.int p2), .val (.long q3), .second, .val (.long q4), .second] [(.int p2), (.int p1)]))
  obtain ⟨_, _, ⟨T1, Lz1, kz1, nz1⟩, -, X1, ⟨Lc1, hQ1, lz1, yz1, zz1⟩, st1⟩ := Jvm.LawKit.callS X0 hx (y := (⟨"com/example/locator/locator/cli/WarmUpPassedPinLaw", "bit", "(II)I"⟩ : MethodName)) hown (mvT hZ (hw _ (List.mem_of_getElem? (i := 21) rfl))) (mvT hZ (hw _ (List.mem_of_getElem? (i := 22) rfl))) (mvT hZ (hw _ (List.mem_of_getElem? (i := 19) rfl))) (mvT hZ (hw _ (List.mem_of_getElem? (i := 23) rfl))) (by decide) (backOf (W := 0) (rm2 l Z a0 hw [] p1 p2 h0 n0 (Nat.le_trans Z0 (Keep.refl h0 []).1) ) hZ (hw _ (List.mem_of_getElem? (i := 23) rfl)) (hw _ (List.mem_of_getElem? (i := 19) rfl)) (by decide) (by decide)) (g := (mkF m 2 #[.val (.int p1), .val (.int p2), .val (.long q3), .second, .val (.long q4), .second] [(.int p2), (.int p1)])) rfl (by rw [hml]; rfl) (argsL := [(.int p1), (.int p2)]) (rest := []) (lenOf own_pd0 rfl) rfl (by show 2 * 0 + _ ≤ _; exact Nat.le_of_eq rfl) (hb hby own_d_method_3_code_2) (fun _ _ => ⟨rfl, e0, (by decide : 0 + 0 ≤ _), (by decide : 0 + 0 ≤ _)⟩)
  dsimp only [Pt.U, Pt.locs, Pt.cells, Pt.slots] at X1 lz1 yz1 zz1 st1 hQ1
  have X1 := own_reb X1 lz1 yz1 zz1
  have X1 : Stand p l e ({ frames := 1, cells := 0, slots := 0, locals := 13 } : Room) s m #[(.int p1), (.int p2), (.long q3), (.long q4)] below meth c T1 _ 0 0 := X1
  obtain ⟨hvq1, Nq1, ez1⟩ := hQ1
  rw [hvq1] at st1
  have N1 := Fr.app N0 Nq1
  refine OGo.st st1 ?_
  show OGo p.tables e below _ (T1.setTop (mkF m 5 #[.val (.int p1), .val (.int p2), .val (.long q3), .second, .val (.long q4), .second] [(.int (own_bit p1 p2))]))
  by_cases hc5 : (own_bit p1 p2) = 0
  · refine OGo.st (fun _ k_ => XS.ifYes X1.here hx rfl (pc0 := 5) (pc' := 13) rfl (hb hby own_d_method_3_code_5) rfl (XT.i0_eq_t hc5) (by decide) (by decide) k_) ?_
    show OGo p.tables e below _ (T1.setTop (mkF m 13 #[.val (.int p1), .val (.int p2), .val (.long q3), .second, .val (.long q4), .second] []))
    refine OGo.st (fun _ k_ => XS.lloadN X1.here hx rfl (hb hby own_d_method_3_code_13) rfl k_) ?_
    show OGo p.tables e below _ (T1.setTop (mkF m 14 #[.val (.int p1), .val (.int p2), .val (.long q3), .second, .val (.long q4), .second] [(.long q3)]))
    refine OGo.fin X1 (v := some (.long q3)) (fun h => by rw [Bd.returns] at h; cases h) hlk (fun fs hr => X1.lreturnOut hx Bd.returns (hb hby own_d_method_3_code_14) hr) ?_ (by decide) (by decide)
    show own_Q_rm3 Z p1 p2 q3 q4 h0 n0 _ T1.heap _
    rw [ez1]
    exact ⟨by simp [own_pick, hc5], N1, rfl⟩
  · refine OGo.st (fun _ k_ => XS.ifNo X1.here hx rfl (hb hby own_d_method_3_code_5) rfl (XT.i0_eq_f hc5) k_) ?_
    show OGo p.tables e below _ (T1.setTop (mkF m 8 #[.val (.int p1), .val (.int p2), .val (.long q3), .second, .val (.long q4), .second] []))
    refine OGo.st (fun _ k_ => XS.lload X1.here hx rfl (hb hby own_d_method_3_code_8) rfl k_) ?_
    show OGo p.tables e below _ (T1.setTop (mkF m 10 #[.val (.int p1), .val (.int p2), .val (.long q3), .second, .val (.long q4), .second] [(.long q4)]))
    refine OGo.st (fun _ k_ => XS.goto X1.here hx rfl (pc0 := 10) (pc' := 14) rfl (hb hby own_d_method_3_code_10) (by decide) (by decide) k_) ?_
    show OGo p.tables e below _ (T1.setTop (mkF m 14 #[.val (.int p1), .val (.int p2), .val (.long q3), .second, .val (.long q4), .second] [(.long q4)]))
    refine OGo.fin X1 (v := some (.long q4)) (fun h => by rw [Bd.returns] at h; cases h) hlk (fun fs hr => X1.lreturnOut hx Bd.returns (hb hby own_d_method_3_code_14) hr) ?_ (by decide) (by decide)
    show own_Q_rm3 Z p1 p2 q3 q4 h0 n0 _ T1.heap _
    rw [ez1]
    exact ⟨by simp [own_pick, hc5], N1, rfl⟩
theorem own_d_prog_120_method_2_code_0 : decode prog_120_method_2_code 0 = .ok (.aload_n 0, 1) := by decide +kernel
theorem own_d_prog_120_method_2_code_1 : decode prog_120_method_2_code 1 = .ok (.getfield 9, 3) := by decide +kernel
theorem own_d_prog_120_method_2_code_4 : decode prog_120_method_2_code 4 = .ok (.aload_n 0, 1) := by decide +kernel
theorem own_d_prog_120_method_2_code_5 : decode prog_120_method_2_code 5 = .ok (.getfield 28, 3) := by decide +kernel
theorem own_d_prog_120_method_2_code_8 : decode prog_120_method_2_code 8 = .ok (.aload_n 0, 1) := by decide +kernel
theorem own_d_prog_120_method_2_code_9 : decode prog_120_method_2_code 9 = .ok (.getfield 9, 3) := by decide +kernel
theorem own_d_prog_120_method_2_code_12 : decode prog_120_method_2_code 12 = .ok (.arraylength, 1) := by decide +kernel
theorem own_d_prog_120_method_2_code_13 : decode prog_120_method_2_code 13 = .ok (.i2l, 1) := by decide +kernel
theorem own_d_prog_120_method_2_code_14 : decode prog_120_method_2_code 14 = .ok (.lrem, 1) := by decide +kernel
theorem own_d_prog_120_method_2_code_15 : decode prog_120_method_2_code 15 = .ok (.l2i, 1) := by decide +kernel
theorem own_d_prog_120_method_2_code_16 : decode prog_120_method_2_code 16 = .ok (.lload_n 1, 1) := by decide +kernel
theorem own_d_prog_120_method_2_code_17 : decode prog_120_method_2_code 17 = .ok (.lastore, 1) := by decide +kernel
theorem own_d_prog_120_method_2_code_18 : decode prog_120_method_2_code 18 = .ok (.aload_n 0, 1) := by decide +kernel
theorem own_d_prog_120_method_2_code_19 : decode prog_120_method_2_code 19 = .ok (.dup, 1) := by decide +kernel
theorem own_d_prog_120_method_2_code_20 : decode prog_120_method_2_code 20 = .ok (.getfield 28, 3) := by decide +kernel
theorem own_d_prog_120_method_2_code_23 : decode prog_120_method_2_code 23 = .ok (.lconst 1, 1) := by decide +kernel
theorem own_d_prog_120_method_2_code_24 : decode prog_120_method_2_code 24 = .ok (.ladd, 1) := by decide +kernel
theorem own_d_prog_120_method_2_code_25 : decode prog_120_method_2_code 25 = .ok (.putfield 28, 3) := by decide +kernel
theorem own_d_prog_120_method_2_code_28 : decode prog_120_method_2_code 28 = .ok (.aload_n 0, 1) := by decide +kernel
theorem own_d_prog_120_method_2_code_29 : decode prog_120_method_2_code 29 = .ok (.dup, 1) := by decide +kernel
theorem own_d_prog_120_method_2_code_30 : decode prog_120_method_2_code 30 = .ok (.getfield 31, 3) := by decide +kernel
theorem own_d_prog_120_method_2_code_33 : decode prog_120_method_2_code 33 = .ok (.lload_n 1, 1) := by decide +kernel
theorem own_d_prog_120_method_2_code_34 : decode prog_120_method_2_code 34 = .ok (.ladd, 1) := by decide +kernel
theorem own_d_prog_120_method_2_code_35 : decode prog_120_method_2_code 35 = .ok (.putfield 31, 3) := by decide +kernel
theorem own_d_prog_120_method_2_code_38 : decode prog_120_method_2_code 38 = .ok (.return_, 1) := by decide +kernel
theorem own_ef_rm4 (m : MethodId) (x0 : Addr) (x1 : Int64) : entryFrame m #[(.ref x0), (.long x1)] 3 = mkF m 0 #[.val (.ref x0), .val (.long x1), .second] [] := by first | (simp [entryFrame, mkF, argsToLocals, Value.category]; done) | rfl
def own_Q_rm4 (Z : State) (a1 : Addr) (q2 : Int64) (b1 : Addr) (k1 : ClassId) (w : Nat → Int64) (np np1 el : Int64) (jn : Nat) (nd : Int64) (h0 : Heap) (n0 : Nat) (v : Option Value) (h : Heap) (L : List Loc) : Prop := v = none ∧ Fr n0 L ∧ Keep h0 h [a1, b1] ∧ Fld Z h a1 "com/example/locator/locator/cli/WarmUp" "recent" "[J" (.ref b1) ∧ Fld Z h a1 "com/example/locator/locator/cli/WarmUp" "passesNeeded" "J" (.long nd) ∧ Fld Z h a1 "com/example/locator/locator/cli/WarmUp" "passes" "J" (.long np1) ∧ Fld Z h a1 "com/example/locator/locator/cli/WarmUp" "elapsed" "J" (.long (el + q2)) ∧ Arf Z h b1 k1 .long 10 (own_L (own_setw w jn q2))
set_option maxRecDepth 65536 in
set_option maxHeartbeats 40000000 in
theorem rm4 (l : Launch) (Z : State) (a0 : Array Value) (hw : ∀ d ∈ tables_1, d.before a0 Z = true) (ws : List Jvm.Cond) (a1 : Addr) (q2 : Int64) (b1 : Addr) (k1 : ClassId) (w : Nat → Int64) (np np1 el : Int64) (jn : Nat) (nd : Int64) (h0 : Heap) (n0 : Nat) (Z0 : n0 ≤ h0.size) (E_a1 : Exa Z h0 a1 "com/example/locator/locator/cli/WarmUp") (F_recent_a1 : Fld Z h0 a1 "com/example/locator/locator/cli/WarmUp" "recent" "[J" (.ref b1)) (F_passesNeeded_a1 : Fld Z h0 a1 "com/example/locator/locator/cli/WarmUp" "passesNeeded" "J" (.long nd)) (F_passes_a1 : Fld Z h0 a1 "com/example/locator/locator/cli/WarmUp" "passes" "J" (.long np)) (F_elapsed_a1 : Fld Z h0 a1 "com/example/locator/locator/cli/WarmUp" "elapsed" "J" (.long el)) (g_a1 : n0 ≤ a1) (A_b1 : Arf Z h0 b1 k1 .long 10 (own_L w)) (g_b1 : n0 ≤ b1) (ne_a1_b1 : a1 ≠ b1) (hin : ¬ (np - (np / (10 : Int32).toInt64) * (10 : Int32).toInt64).toInt32 < 0 ∧ (np - (np / (10 : Int32).toInt64) * (10 : Int32).toInt64).toInt32 < 10) (hjn : (np - (np / (10 : Int32).toInt64) * (10 : Int32).toInt64).toInt32.toNatClampNeg = jn) (h1 : np + (1 : Int64) = np1) :
    OMet l Z (⟨"com/example/locator/locator/cli/WarmUp", "passed", "(J)V"⟩ : MethodName) prog_120_method_2_code 3 none ws ({ frames := 0, cells := 0, slots := 0, locals := 0 } : Room) #[(.ref a1), (.long q2)] h0 (own_Q_rm4 Z a1 q2 b1 k1 w np np1 el jn nd h0 n0) := by
  refine MetFree.of_bodySF (plainFor_of_name own_pn0) hisR ?_
  intro p e s m args below meth c s₁ Bd hml0 hP hK
  obtain ⟨rfl, hZ, hh⟩ := hP
  have hx := Bd.exec
  have hby := Bd.bytes
  have hml : c.maxLocals = 3 := hml0
  have hown : s.vm.findClass "com/example/locator/locator/cli/WarmUp" = some m.cls := findClass_of_methodNamed Bd.named
  have hnm := (name_of_methodNamed Bd.named Bd.method).1
  have hlk : meth.locks = false := Bd.notSynchronized
  have X0 : Stand p l e ({ frames := 0, cells := 0, slots := 0, locals := 0 } : Room) s m #[(.ref a1), (.long q2)] below meth c s₁ [] 0 0 := Stand.of_body Bd
  have e0 : s₁.heap = h0 := by rw [← hh, Bd.state]; rfl
  have N0 := Fr.nil n0
  refine OGo.enter (P := OPost s (own_Q_rm4 Z a1 q2 b1 k1 w np np1 el jn nd h0 n0) 0 0) (own_ef_rm4 m a1 q2) ?_
  show OGo p.tables e below _ (s₁.setTop (mkF m 0 #[.val (.ref a1), .val (.long q2), .second] []))
  refine OGo.st (fun _ k_ => XS.aloadN X0.here hx rfl (hb hby own_d_prog_120_method_2_code_0) rfl rfl k_) ?_
  show OGo p.tables e below _ (s₁.setTop (mkF m 1 #[.val (.ref a1), .val (.long q2), .second] [(.ref a1)]))
  obtain ⟨T1, X1, ez1, st1⟩ := getF X0 hx hZ hown (host := "") (Or.inl (hw _ (List.mem_of_getElem? (i := 12) rfl))) Via.refl e0 F_recent_a1 (g := (mkF m 1 #[.val (.ref a1), .val (.long q2), .second] [(.ref a1)])) rfl rfl (hb hby own_d_prog_120_method_2_code_1)
  refine OGo.st st1 ?_
  show OGo p.tables e below _ (T1.setTop (mkF m 4 #[.val (.ref a1), .val (.long q2), .second] [(.ref b1)]))
  refine OGo.st (fun _ k_ => XS.aloadN X1.here hx rfl (hb hby own_d_prog_120_method_2_code_4) rfl rfl k_) ?_
  show OGo p.tables e below _ (T1.setTop (mkF m 5 #[.val (.ref a1), .val (.long q2), .second] [(.ref a1), (.ref b1)]))
  obtain ⟨T2, X2, ez2, st2⟩ := getF X1 hx hZ hown (host := "") (Or.inl (hw _ (List.mem_of_getElem? (i := 29) rfl))) Via.refl ez1 F_passes_a1 (g := (mkF m 5 #[.val (.ref a1), .val (.long q2), .second] [(.ref a1), (.ref b1)])) rfl rfl (hb hby own_d_prog_120_method_2_code_5)
  refine OGo.st st2 ?_
  show OGo p.tables e below _ (T2.setTop (mkF m 8 #[.val (.ref a1), .val (.long q2), .second] [(.long np), (.ref b1)]))
  refine OGo.st (fun _ k_ => XS.aloadN X2.here hx rfl (hb hby own_d_prog_120_method_2_code_8) rfl rfl k_) ?_
  show OGo p.tables e below _ (T2.setTop (mkF m 9 #[.val (.ref a1), .val (.long q2), .second] [(.ref a1), (.long np), (.ref b1)]))
  obtain ⟨T3, X3, ez3, st3⟩ := getF X2 hx hZ hown (host := "") (Or.inl (hw _ (List.mem_of_getElem? (i := 12) rfl))) Via.refl ez2 F_recent_a1 (g := (mkF m 9 #[.val (.ref a1), .val (.long q2), .second] [(.ref a1), (.long np), (.ref b1)])) rfl rfl (hb hby own_d_prog_120_method_2_code_9)
  refine OGo.st st3 ?_
  show OGo p.tables e below _ (T3.setTop (mkF m 12 #[.val (.ref a1), .val (.long q2), .second] [(.ref b1), (.long np), (.ref b1)]))
  have qz4 := own_alen X3 hx hZ ez3 A_b1 (g := (mkF m 12 #[.val (.ref a1), .val (.long q2), .second] [(.ref b1), (.long np), (.ref b1)])) rfl rfl (hb hby own_d_prog_120_method_2_code_12)
  refine OGo.st qz4 ?_
  show OGo p.tables e below _ (T3.setTop (mkF m 13 #[.val (.ref a1), .val (.long q2), .second] [(.int (10 : Int32)), (.long np), (.ref b1)]))
  refine OGo.st (fun _ k_ => XS.i2l X3.here hx rfl (hb hby own_d_prog_120_method_2_code_13) rfl k_) ?_
  show OGo p.tables e below _ (T3.setTop (mkF m 14 #[.val (.ref a1), .val (.long q2), .second] [(.long (10 : Int32).toInt64), (.long np), (.ref b1)]))
  refine OGo.st (fun _ k_ => XS.lrem X3.here hx rfl (hb hby own_d_prog_120_method_2_code_14) rfl (by decide) k_) ?_
  show OGo p.tables e below _ (T3.setTop (mkF m 15 #[.val (.ref a1), .val (.long q2), .second] [(.long (np - (np / (10 : Int32).toInt64) * (10 : Int32).toInt64)), (.ref b1)]))
  refine OGo.st (fun _ k_ => XS.l2i X3.here hx rfl (hb hby own_d_prog_120_method_2_code_15) rfl k_) ?_
  show OGo p.tables e below _ (T3.setTop (mkF m 16 #[.val (.ref a1), .val (.long q2), .second] [(.int (np - (np / (10 : Int32).toInt64) * (10 : Int32).toInt64).toInt32), (.ref b1)]))
  refine OGo.st (fun _ k_ => XS.lloadN X3.here hx rfl (hb hby own_d_prog_120_method_2_code_16) rfl k_) ?_
  show OGo p.tables e below _ (T3.setTop (mkF m 17 #[.val (.ref a1), .val (.long q2), .second] [(.long q2), (.int (np - (np / (10 : Int32).toInt64) * (10 : Int32).toInt64).toInt32), (.ref b1)]))
  obtain ⟨T5, hz5, X5, ez5, W5, V5, st5⟩ := own_stJ X3 hx hZ ez3 A_b1 (j := (np - (np / (10 : Int32).toInt64) * (10 : Int32).toInt64).toInt32) hin  (g := (mkF m 17 #[.val (.ref a1), .val (.long q2), .second] [(.long q2), (.int (np - (np / (10 : Int32).toInt64) * (10 : Int32).toInt64).toInt32), (.ref b1)])) rfl rfl (hb hby own_d_prog_120_method_2_code_17)
  have Ex_6 := E_a1.wr W5
  have F_7 := F_recent_a1.other W5 (Or.inl ne_a1_b1)
  have F_8 := F_passesNeeded_a1.other W5 (Or.inl ne_a1_b1)
  have F_9 := F_passes_a1.other W5 (Or.inl ne_a1_b1)
  have F_10 := F_elapsed_a1.other W5 (Or.inl ne_a1_b1)
  have N5 := Fr.snoc X5 N0 g_b1
  have K_11 : Keep h0 hz5 [a1, b1] := (Keep.refl h0 [a1, b1]).wr W5 (Or.inl (List.mem_of_getElem? (i := 1) rfl))
  refine OGo.st st5 ?_
  have Af_12 : Arf Z hz5 b1 k1 .long 10 (own_L (own_setw w jn q2)) := V5.congr (fun i _ => by rw [hjn]; exact own_upd_set w jn q2 i)
  show OGo p.tables e below _ (T5.setTop (mkF m 18 #[.val (.ref a1), .val (.long q2), .second] []))
  refine OGo.st (fun _ k_ => XS.aloadN X5.here hx rfl (hb hby own_d_prog_120_method_2_code_18) rfl rfl k_) ?_
  show OGo p.tables e below _ (T5.setTop (mkF m 19 #[.val (.ref a1), .val (.long q2), .second] [(.ref a1)]))
  refine OGo.st (fun _ k_ => XS.dup X5.here hx rfl (hb hby own_d_prog_120_method_2_code_19) rfl rfl k_) ?_
  show OGo p.tables e below _ (T5.setTop (mkF m 20 #[.val (.ref a1), .val (.long q2), .second] [(.ref a1), (.ref a1)]))
  obtain ⟨T13, X13, ez13, st13⟩ := getF X5 hx hZ hown (host := "") (Or.inl (hw _ (List.mem_of_getElem? (i := 29) rfl))) Via.refl ez5 F_9 (g := (mkF m 20 #[.val (.ref a1), .val (.long q2), .second] [(.ref a1), (.ref a1)])) rfl rfl (hb hby own_d_prog_120_method_2_code_20)
  refine OGo.st st13 ?_
  show OGo p.tables e below _ (T13.setTop (mkF m 23 #[.val (.ref a1), .val (.long q2), .second] [(.long np), (.ref a1)]))
  refine OGo.st (fun _ k_ => XS.lconst X13.here hx rfl (hb hby own_d_prog_120_method_2_code_23) k_) ?_
  show OGo p.tables e below _ (T13.setTop (mkF m 24 #[.val (.ref a1), .val (.long q2), .second] [(.long (1 : Int64)), (.long np), (.ref a1)]))
  refine OGo.st (fun _ k_ => XS.ladd X13.here hx rfl (hb hby own_d_prog_120_method_2_code_24) rfl k_) ?_
  show OGo p.tables e below _ (T13.setTop (mkF m 25 #[.val (.ref a1), .val (.long q2), .second] [(.long (np + (1 : Int64))), (.ref a1)]))
  obtain ⟨T14, hz14, X14, ez14, W14, st14⟩ := putF X13 hx hZ hown (host := "") (Or.inl (hw _ (List.mem_of_getElem? (i := 29) rfl))) Via.refl ez13 F_9 Ex_6 (Or.inl (hw _ (List.mem_of_getElem? (i := 30) rfl))) (hw _ (List.mem_of_getElem? (i := 3) rfl)) (ty := .long) (by decide) rfl rfl (g := (mkF m 25 #[.val (.ref a1), .val (.long q2), .second] [(.long (np + (1 : Int64))), (.ref a1)])) rfl rfl (hb hby own_d_prog_120_method_2_code_25)
  have Fw14 : Fld Z hz14 a1 "com/example/locator/locator/cli/WarmUp" "passes" "J" (.long (np + (1 : Int64))) := F_9.same W14
  have Ex_15 := Ex_6.wr W14
  have F_16 := F_7.other W14 (Or.inr (slot_ne (Or.inr (hw _ (List.mem_of_getElem? (i := 13) rfl))) (Or.inl (hw _ (List.mem_of_getElem? (i := 30) rfl))) (by decide) (t := (.array .long)) (t' := .long) (by decide) (by decide)))
  have F_17 := F_8.other W14 (Or.inr (slot_ne (Or.inr (hw _ (List.mem_of_getElem? (i := 16) rfl))) (Or.inl (hw _ (List.mem_of_getElem? (i := 30) rfl))) (by decide) (t := .long) (t' := .long) (by decide) (by decide)))
  have F_18 := F_10.other W14 (Or.inr (slot_ne (Or.inl (hw _ (List.mem_of_getElem? (i := 32) rfl))) (Or.inl (hw _ (List.mem_of_getElem? (i := 30) rfl))) (by decide) (t := .long) (t' := .long) (by decide) (by decide)))
  have Af_19 := Af_12.other W14 (Ne.symm ne_a1_b1)
  have N14 := Fr.snoc X14 N5 g_a1
  have K_20 : Keep h0 hz14 [a1, b1] := K_11.wr W14 (Or.inl (List.mem_of_getElem? (i := 0) rfl))
  refine OGo.st st14 ?_
  show OGo p.tables e below _ (T14.setTop (mkF m 28 #[.val (.ref a1), .val (.long q2), .second] []))
  refine OGo.st (fun _ k_ => XS.aloadN X14.here hx rfl (hb hby own_d_prog_120_method_2_code_28) rfl rfl k_) ?_
  show OGo p.tables e below _ (T14.setTop (mkF m 29 #[.val (.ref a1), .val (.long q2), .second] [(.ref a1)]))
  refine OGo.st (fun _ k_ => XS.dup X14.here hx rfl (hb hby own_d_prog_120_method_2_code_29) rfl rfl k_) ?_
  show OGo p.tables e below _ (T14.setTop (mkF m 30 #[.val (.ref a1), .val (.long q2), .second] [(.ref a1), (.ref a1)]))
  obtain ⟨T21, X21, ez21, st21⟩ := getF X14 hx hZ hown (host := "") (Or.inl (hw _ (List.mem_of_getElem? (i := 31) rfl))) Via.refl ez14 F_18 (g := (mkF m 30 #[.val (.ref a1), .val (.long q2), .second] [(.ref a1), (.ref a1)])) rfl rfl (hb hby own_d_prog_120_method_2_code_30)
  refine OGo.st st21 ?_
  show OGo p.tables e below _ (T21.setTop (mkF m 33 #[.val (.ref a1), .val (.long q2), .second] [(.long el), (.ref a1)]))
  refine OGo.st (fun _ k_ => XS.lloadN X21.here hx rfl (hb hby own_d_prog_120_method_2_code_33) rfl k_) ?_
  show OGo p.tables e below _ (T21.setTop (mkF m 34 #[.val (.ref a1), .val (.long q2), .second] [(.long q2), (.long el), (.ref a1)]))
  refine OGo.st (fun _ k_ => XS.ladd X21.here hx rfl (hb hby own_d_prog_120_method_2_code_34) rfl k_) ?_
  show OGo p.tables e below _ (T21.setTop (mkF m 35 #[.val (.ref a1), .val (.long q2), .second] [(.long (el + q2)), (.ref a1)]))
  obtain ⟨T22, hz22, X22, ez22, W22, st22⟩ := putF X21 hx hZ hown (host := "") (Or.inl (hw _ (List.mem_of_getElem? (i := 31) rfl))) Via.refl ez21 F_18 Ex_15 (Or.inl (hw _ (List.mem_of_getElem? (i := 32) rfl))) (hw _ (List.mem_of_getElem? (i := 3) rfl)) (ty := .long) (by decide) rfl rfl (g := (mkF m 35 #[.val (.ref a1), .val (.long q2), .second] [(.long (el + q2)), (.ref a1)])) rfl rfl (hb hby own_d_prog_120_method_2_code_35)
  have Fw22 : Fld Z hz22 a1 "com/example/locator/locator/cli/WarmUp" "elapsed" "J" (.long (el + q2)) := F_18.same W22
  have Ex_23 := Ex_15.wr W22
  have F_24 := F_16.other W22 (Or.inr (slot_ne (Or.inr (hw _ (List.mem_of_getElem? (i := 13) rfl))) (Or.inl (hw _ (List.mem_of_getElem? (i := 32) rfl))) (by decide) (t := (.array .long)) (t' := .long) (by decide) (by decide)))
  have F_25 := F_17.other W22 (Or.inr (slot_ne (Or.inr (hw _ (List.mem_of_getElem? (i := 16) rfl))) (Or.inl (hw _ (List.mem_of_getElem? (i := 32) rfl))) (by decide) (t := .long) (t' := .long) (by decide) (by decide)))
  have Af_26 := Af_19.other W22 (Ne.symm ne_a1_b1)
  have F_27 := Fw14.other W22 (Or.inr (slot_ne (Or.inl (hw _ (List.mem_of_getElem? (i := 30) rfl))) (Or.inl (hw _ (List.mem_of_getElem? (i := 32) rfl))) (by decide) (t := .long) (t' := .long) (by decide) (by decide)))
  have N22 := Fr.snoc X22 N14 g_a1
  have K_28 : Keep h0 hz22 [a1, b1] := K_20.wr W22 (Or.inl (List.mem_of_getElem? (i := 0) rfl))
  refine OGo.st st22 ?_
  show OGo p.tables e below _ (T22.setTop (mkF m 38 #[.val (.ref a1), .val (.long q2), .second] []))
  refine OGo.fin X22 (v := none) (fun _ => rfl) hlk (fun fs hr => X22.returnOut hx Bd.returns (hb hby own_d_prog_120_method_2_code_38) hr) ?_ (by decide) (by decide)
  show own_Q_rm4 Z a1 q2 b1 k1 w np np1 el jn nd h0 n0 _ T22.heap _
  rw [ez22]
  exact ⟨rfl, N22, K_28, F_24, F_25, by rw [← h1]; exact F_27, Fw22, Af_26⟩
theorem own_d_jdk_2529_method_15_code_0 : decode jdk_2529_method_15_code 0 = .ok (.iload_n 1, 1) := by decide +kernel
theorem own_d_jdk_2529_method_15_code_1 : decode jdk_2529_method_15_code 1 = .ok (.istore 4, 2) := by decide +kernel
theorem own_d_jdk_2529_method_15_code_3 : decode jdk_2529_method_15_code 3 = .ok (.iinc 4 1, 3) := by decide +kernel
theorem own_d_jdk_2529_method_15_code_6 : decode jdk_2529_method_15_code 6 = .ok (.iload 4, 2) := by decide +kernel
theorem own_d_jdk_2529_method_15_code_8 : decode jdk_2529_method_15_code 8 = .ok (.iload_n 2, 1) := by decide +kernel
theorem own_d_jdk_2529_method_15_code_9 : decode jdk_2529_method_15_code 9 = .ok (.if_icmp .ge 60, 3) := by decide +kernel
theorem own_d_jdk_2529_method_15_code_69 : decode jdk_2529_method_15_code 69 = .ok (.return_, 1) := by decide +kernel
theorem own_d_jdk_2529_method_15_code_12 : decode jdk_2529_method_15_code 12 = .ok (.aload_n 0, 1) := by decide +kernel
theorem own_d_jdk_2529_method_15_code_13 : decode jdk_2529_method_15_code 13 = .ok (.iload 4, 2) := by decide +kernel
theorem own_d_jdk_2529_method_15_code_15 : decode jdk_2529_method_15_code 15 = .ok (.dup, 1) := by decide +kernel
theorem own_d_jdk_2529_method_15_code_16 : decode jdk_2529_method_15_code 16 = .ok (.istore_n 3, 1) := by decide +kernel
theorem own_d_jdk_2529_method_15_code_17 : decode jdk_2529_method_15_code 17 = .ok (.laload, 1) := by decide +kernel
theorem own_d_jdk_2529_method_15_code_18 : decode jdk_2529_method_15_code 18 = .ok (.lstore 5, 2) := by decide +kernel
theorem own_d_jdk_2529_method_15_code_20 : decode jdk_2529_method_15_code 20 = .ok (.lload 5, 2) := by decide +kernel
theorem own_d_jdk_2529_method_15_code_22 : decode jdk_2529_method_15_code 22 = .ok (.aload_n 0, 1) := by decide +kernel
theorem own_d_jdk_2529_method_15_code_23 : decode jdk_2529_method_15_code 23 = .ok (.iload_n 3, 1) := by decide +kernel
theorem own_d_jdk_2529_method_15_code_24 : decode jdk_2529_method_15_code 24 = .ok (.iconst 1, 1) := by decide +kernel
theorem own_d_jdk_2529_method_15_code_25 : decode jdk_2529_method_15_code 25 = .ok (.isub, 1) := by decide +kernel
theorem own_d_jdk_2529_method_15_code_26 : decode jdk_2529_method_15_code 26 = .ok (.laload, 1) := by decide +kernel
theorem own_d_jdk_2529_method_15_code_27 : decode jdk_2529_method_15_code 27 = .ok (.lcmp, 1) := by decide +kernel
theorem own_d_jdk_2529_method_15_code_28 : decode jdk_2529_method_15_code 28 = .ok (.ifCond .ge 38, 3) := by decide +kernel
theorem own_d_jdk_2529_method_15_code_31 : decode jdk_2529_method_15_code 31 = .ok (.iinc 3 (-1), 3) := by decide +kernel
theorem own_d_jdk_2529_method_15_code_34 : decode jdk_2529_method_15_code 34 = .ok (.iload_n 3, 1) := by decide +kernel
theorem own_d_jdk_2529_method_15_code_35 : decode jdk_2529_method_15_code 35 = .ok (.iload_n 1, 1) := by decide +kernel
theorem own_d_jdk_2529_method_15_code_36 : decode jdk_2529_method_15_code 36 = .ok (.if_icmp .lt 23, 3) := by decide +kernel
theorem own_d_jdk_2529_method_15_code_39 : decode jdk_2529_method_15_code 39 = .ok (.lload 5, 2) := by decide +kernel
theorem own_d_jdk_2529_method_15_code_41 : decode jdk_2529_method_15_code 41 = .ok (.aload_n 0, 1) := by decide +kernel
theorem own_d_jdk_2529_method_15_code_42 : decode jdk_2529_method_15_code 42 = .ok (.iload_n 3, 1) := by decide +kernel
theorem own_d_jdk_2529_method_15_code_43 : decode jdk_2529_method_15_code 43 = .ok (.laload, 1) := by decide +kernel
theorem own_d_jdk_2529_method_15_code_44 : decode jdk_2529_method_15_code 44 = .ok (.lcmp, 1) := by decide +kernel
theorem own_d_jdk_2529_method_15_code_45 : decode jdk_2529_method_15_code 45 = .ok (.ifCond .ge 14, 3) := by decide +kernel
theorem own_d_jdk_2529_method_15_code_48 : decode jdk_2529_method_15_code 48 = .ok (.aload_n 0, 1) := by decide +kernel
theorem own_d_jdk_2529_method_15_code_49 : decode jdk_2529_method_15_code 49 = .ok (.iload_n 3, 1) := by decide +kernel
theorem own_d_jdk_2529_method_15_code_50 : decode jdk_2529_method_15_code 50 = .ok (.iconst 1, 1) := by decide +kernel
theorem own_d_jdk_2529_method_15_code_51 : decode jdk_2529_method_15_code 51 = .ok (.iadd, 1) := by decide +kernel
theorem own_d_jdk_2529_method_15_code_52 : decode jdk_2529_method_15_code 52 = .ok (.aload_n 0, 1) := by decide +kernel
theorem own_d_jdk_2529_method_15_code_53 : decode jdk_2529_method_15_code 53 = .ok (.iload_n 3, 1) := by decide +kernel
theorem own_d_jdk_2529_method_15_code_54 : decode jdk_2529_method_15_code 54 = .ok (.laload, 1) := by decide +kernel
theorem own_d_jdk_2529_method_15_code_55 : decode jdk_2529_method_15_code 55 = .ok (.lastore, 1) := by decide +kernel
theorem own_d_jdk_2529_method_15_code_56 : decode jdk_2529_method_15_code 56 = .ok (.goto (-25), 3) := by decide +kernel
theorem own_d_jdk_2529_method_15_code_59 : decode jdk_2529_method_15_code 59 = .ok (.aload_n 0, 1) := by decide +kernel
theorem own_d_jdk_2529_method_15_code_60 : decode jdk_2529_method_15_code 60 = .ok (.iload_n 3, 1) := by decide +kernel
theorem own_d_jdk_2529_method_15_code_61 : decode jdk_2529_method_15_code 61 = .ok (.iconst 1, 1) := by decide +kernel
theorem own_d_jdk_2529_method_15_code_62 : decode jdk_2529_method_15_code 62 = .ok (.iadd, 1) := by decide +kernel
theorem own_d_jdk_2529_method_15_code_63 : decode jdk_2529_method_15_code 63 = .ok (.lload 5, 2) := by decide +kernel
theorem own_d_jdk_2529_method_15_code_65 : decode jdk_2529_method_15_code 65 = .ok (.lastore, 1) := by decide +kernel
theorem own_d_jdk_2529_method_15_code_66 : decode jdk_2529_method_15_code 66 = .ok (.goto (-63), 3) := by decide +kernel
theorem own_pn2 : plainName "java/util/DualPivotQuicksort" = true := by first | (simp [plainName, overriddenIn]; done) | decide +kernel
theorem own_ef_rm5 (m : MethodId) (x0 : Addr) (x1 : Int32) (x2 : Int32) : entryFrame m #[(.ref x0), (.int x1), (.int x2)] 7 = mkF m 0 #[.val (.ref x0), .val (.int x1), .val (.int x2), .unset, .unset, .unset, .unset] [] := by first | (simp [entryFrame, mkF, argsToLocals, Value.category]; done) | rfl
def own_Q_rm5 (Z : State) (c1 : Addr) (k1 : ClassId) (w : Nat → Int64) (h0 : Heap) (n0 : Nat) (v : Option Value) (h : Heap) (L : List Loc) : Prop := v = none ∧ Fr n0 L ∧ Keep h0 h [c1] ∧ ∃ w1 : Nat → Int64, Arf Z h c1 k1 .long 5 (own_L w1) ∧ own_I 4 w w1
set_option maxRecDepth 65536 in
set_option maxHeartbeats 40000000 in
theorem rm5 (l : Launch) (Z : State) (a0 : Array Value) (hw : ∀ d ∈ tables_1, d.before a0 Z = true) (ws : List Jvm.Cond) (c1 : Addr) (k1 : ClassId) (w : Nat → Int64) (h0 : Heap) (n0 : Nat) (Z0 : n0 ≤ h0.size) (A_c1 : Arf Z h0 c1 k1 .long 5 (own_L w)) (g_c1 : n0 ≤ c1) :
    OMet l Z (⟨"java/util/DualPivotQuicksort", "insertionSort", "([JII)V"⟩ : MethodName) jdk_2529_method_15_code 7 none ws ({ frames := 0, cells := 0, slots := 0, locals := 0 } : Room) #[(.ref c1), (.int (0 : Int32)), (.int (5 : Int32))] h0 (own_Q_rm5 Z c1 k1 w h0 n0) := by
  refine MetFree.of_bodySF (plainFor_of_name own_pn2) hisR ?_
  intro p e s m args below meth c s₁ Bd hml0 hP hK
  obtain ⟨rfl, hZ, hh⟩ := hP
  have hx := Bd.exec
  have hby := Bd.bytes
  have hml : c.maxLocals = 7 := hml0
  have hown : s.vm.findClass "java/util/DualPivotQuicksort" = some m.cls := findClass_of_methodNamed Bd.named
  have hnm := (name_of_methodNamed Bd.named Bd.method).1
  have hlk : meth.locks = false := Bd.notSynchronized
  have X0 : Stand p l e ({ frames := 0, cells := 0, slots := 0, locals := 0 } : Room) s m #[(.ref c1), (.int (0 : Int32)), (.int (5 : Int32))] below meth c s₁ [] 0 0 := Stand.of_body Bd
  have e0 : s₁.heap = h0 := by rw [← hh, Bd.state]; rfl
  have N0 := Fr.nil n0
  refine OGo.enter (P := OPost s (own_Q_rm5 Z c1 k1 w h0 n0) 0 0) (own_ef_rm5 m c1 (0 : Int32) (5 : Int32)) ?_
  show OGo p.tables e below _ (s₁.setTop (mkF m 0 #[.val (.ref c1), .val (.int (0 : Int32)), .val (.int (5 : Int32)), .unset, .unset, .unset, .unset] []))
  refine OGo.st (fun _ k_ => XS.iloadN X0.here hx rfl (hb hby own_d_jdk_2529_method_15_code_0) rfl k_) ?_
  show OGo p.tables e below _ (s₁.setTop (mkF m 1 #[.val (.ref c1), .val (.int (0 : Int32)), .val (.int (5 : Int32)), .unset, .unset, .unset, .unset] [(.int (0 : Int32))]))
  refine OGo.st (fun _ k_ => XS.istore X0.here hx rfl (hb hby own_d_jdk_2529_method_15_code_1) rfl (l' := #[.val (.ref c1), .val (.int (0 : Int32)), .val (.int (5 : Int32)), .unset, .val (.int (0 : Int32)), .unset, .unset]) rfl k_) ?_
  have J4 : ∀ (Tj1 : State) (lj1 : List Loc) (hj1 : Heap) (x3 : Int32) (x5 : Int64) (wk : Nat → Int64), Stand p l e ({ frames := 0, cells := 0, slots := 0, locals := 0 } : Room) s m #[(.ref c1), (.int (0 : Int32)), (.int (5 : Int32))] below meth c Tj1 lj1 0 0 → Tj1.heap = hj1 → Fr n0 lj1 → Keep h0 hj1 [c1] → Arf Z hj1 c1 k1 .long 5 (own_L wk) → own_I 4 w wk → OGo p.tables e below (OPost s (own_Q_rm5 Z c1 k1 w h0 n0) 0 0) (Tj1.setTop (mkF m 3 #[.val (.ref c1), .val (.int (0 : Int32)), .val (.int (5 : Int32)), .val (.int x3), .val (.int (4 : Int32)), .val (.long x5), .second] [])) := by
    intro Tj1 lj1 hj1 x3 x5 wk Xj1 ej1 Nj1 Kj1 f1_0 hI
    show OGo p.tables e below _ (Tj1.setTop (mkF m 3 #[.val (.ref c1), .val (.int (0 : Int32)), .val (.int (5 : Int32)), .val (.int x3), .val (.int (4 : Int32)), .val (.long x5), .second] []))
    refine OGo.st (fun _ k_ => XS.iinc Xj1.here hx rfl (hb hby own_d_jdk_2529_method_15_code_3) rfl (l' := #[.val (.ref c1), .val (.int (0 : Int32)), .val (.int (5 : Int32)), .val (.int x3), .val (.int (5 : Int32)), .val (.long x5), .second]) rfl k_) ?_
    show OGo p.tables e below _ (Tj1.setTop (mkF m 6 #[.val (.ref c1), .val (.int (0 : Int32)), .val (.int (5 : Int32)), .val (.int x3), .val (.int (5 : Int32)), .val (.long x5), .second] []))
    refine OGo.st (fun _ k_ => XS.iload Xj1.here hx rfl (hb hby own_d_jdk_2529_method_15_code_6) rfl k_) ?_
    show OGo p.tables e below _ (Tj1.setTop (mkF m 8 #[.val (.ref c1), .val (.int (0 : Int32)), .val (.int (5 : Int32)), .val (.int x3), .val (.int (5 : Int32)), .val (.long x5), .second] [(.int (5 : Int32))]))
    refine OGo.st (fun _ k_ => XS.iloadN Xj1.here hx rfl (hb hby own_d_jdk_2529_method_15_code_8) rfl k_) ?_
    show OGo p.tables e below _ (Tj1.setTop (mkF m 9 #[.val (.ref c1), .val (.int (0 : Int32)), .val (.int (5 : Int32)), .val (.int x3), .val (.int (5 : Int32)), .val (.long x5), .second] [(.int (5 : Int32)), (.int (5 : Int32))]))
    refine OGo.st (fun _ k_ => XS.icmpYes Xj1.here hx rfl (pc0 := 9) (pc' := 69) rfl (hb hby own_d_jdk_2529_method_15_code_9) rfl (XT.ii_ge_t (by decide)) (by decide) (by decide) k_) ?_
    show OGo p.tables e below _ (Tj1.setTop (mkF m 69 #[.val (.ref c1), .val (.int (0 : Int32)), .val (.int (5 : Int32)), .val (.int x3), .val (.int (5 : Int32)), .val (.long x5), .second] []))
    refine OGo.fin Xj1 (v := none) (fun _ => rfl) hlk (fun fs hr => Xj1.returnOut hx Bd.returns (hb hby own_d_jdk_2529_method_15_code_69) hr) ?_ (by decide) (by decide)
    show own_Q_rm5 Z c1 k1 w h0 n0 _ Tj1.heap _
    rw [ej1]
    exact ⟨rfl, Nj1, Kj1, wk, f1_0, hI⟩
  have J3 : ∀ (Tj2 : State) (lj2 : List Loc) (hj2 : Heap) (x3 : Int32) (x5 : Int64) (wk : Nat → Int64), Stand p l e ({ frames := 0, cells := 0, slots := 0, locals := 0 } : Room) s m #[(.ref c1), (.int (0 : Int32)), (.int (5 : Int32))] below meth c Tj2 lj2 0 0 → Tj2.heap = hj2 → Fr n0 lj2 → Keep h0 hj2 [c1] → Arf Z hj2 c1 k1 .long 5 (own_L wk) → own_I 3 w wk → OGo p.tables e below (OPost s (own_Q_rm5 Z c1 k1 w h0 n0) 0 0) (Tj2.setTop (mkF m 3 #[.val (.ref c1), .val (.int (0 : Int32)), .val (.int (5 : Int32)), .val (.int x3), .val (.int (3 : Int32)), .val (.long x5), .second] [])) := by
    intro Tj2 lj2 hj2 x3 x5 wk Xj2 ej2 Nj2 Kj2 f2_0 hI
    show OGo p.tables e below _ (Tj2.setTop (mkF m 3 #[.val (.ref c1), .val (.int (0 : Int32)), .val (.int (5 : Int32)), .val (.int x3), .val (.int (3 : Int32)), .val (.long x5), .second] []))
    refine OGo.st (fun _ k_ => XS.iinc Xj2.here hx rfl (hb hby own_d_jdk_2529_method_15_code_3) rfl (l' := #[.val (.ref c1), .val (.int (0 : Int32)), .val (.int (5 : Int32)), .val (.int x3), .val (.int (4 : Int32)), .val (.long x5), .second]) rfl k_) ?_
    show OGo p.tables e below _ (Tj2.setTop (mkF m 6 #[.val (.ref c1), .val (.int (0 : Int32)), .val (.int (5 : Int32)), .val (.int x3), .val (.int (4 : Int32)), .val (.long x5), .second] []))
    refine OGo.st (fun _ k_ => XS.iload Xj2.here hx rfl (hb hby own_d_jdk_2529_method_15_code_6) rfl k_) ?_
    show OGo p.tables e below _ (Tj2.setTop (mkF m 8 #[.val (.ref c1), .val (.int (0 : Int32)), .val (.int (5 : Int32)), .val (.int x3), .val (.int (4 : Int32)), .val (.long x5), .second] [(.int (4 : Int32))]))
    refine OGo.st (fun _ k_ => XS.iloadN Xj2.here hx rfl (hb hby own_d_jdk_2529_method_15_code_8) rfl k_) ?_
    show OGo p.tables e below _ (Tj2.setTop (mkF m 9 #[.val (.ref c1), .val (.int (0 : Int32)), .val (.int (5 : Int32)), .val (.int x3), .val (.int (4 : Int32)), .val (.long x5), .second] [(.int (5 : Int32)), (.int (4 : Int32))]))
    refine OGo.st (fun _ k_ => XS.icmpNo Xj2.here hx rfl (hb hby own_d_jdk_2529_method_15_code_9) rfl (XT.ii_ge_f (by decide)) k_) ?_
    show OGo p.tables e below _ (Tj2.setTop (mkF m 12 #[.val (.ref c1), .val (.int (0 : Int32)), .val (.int (5 : Int32)), .val (.int x3), .val (.int (4 : Int32)), .val (.long x5), .second] []))
    refine OGo.st (fun _ k_ => XS.aloadN Xj2.here hx rfl (hb hby own_d_jdk_2529_method_15_code_12) rfl rfl k_) ?_
    show OGo p.tables e below _ (Tj2.setTop (mkF m 13 #[.val (.ref c1), .val (.int (0 : Int32)), .val (.int (5 : Int32)), .val (.int x3), .val (.int (4 : Int32)), .val (.long x5), .second] [(.ref c1)]))
    refine OGo.st (fun _ k_ => XS.iload Xj2.here hx rfl (hb hby own_d_jdk_2529_method_15_code_13) rfl k_) ?_
    show OGo p.tables e below _ (Tj2.setTop (mkF m 15 #[.val (.ref c1), .val (.int (0 : Int32)), .val (.int (5 : Int32)), .val (.int x3), .val (.int (4 : Int32)), .val (.long x5), .second] [(.int (4 : Int32)), (.ref c1)]))
    refine OGo.st (fun _ k_ => XS.dup Xj2.here hx rfl (hb hby own_d_jdk_2529_method_15_code_15) rfl rfl k_) ?_
    show OGo p.tables e below _ (Tj2.setTop (mkF m 16 #[.val (.ref c1), .val (.int (0 : Int32)), .val (.int (5 : Int32)), .val (.int x3), .val (.int (4 : Int32)), .val (.long x5), .second] [(.int (4 : Int32)), (.int (4 : Int32)), (.ref c1)]))
    refine OGo.st (fun _ k_ => XS.istoreN Xj2.here hx rfl (hb hby own_d_jdk_2529_method_15_code_16) rfl (l' := #[.val (.ref c1), .val (.int (0 : Int32)), .val (.int (5 : Int32)), .val (.int (4 : Int32)), .val (.int (4 : Int32)), .val (.long x5), .second]) rfl k_) ?_
    show OGo p.tables e below _ (Tj2.setTop (mkF m 17 #[.val (.ref c1), .val (.int (0 : Int32)), .val (.int (5 : Int32)), .val (.int (4 : Int32)), .val (.int (4 : Int32)), .val (.long x5), .second] [(.int (4 : Int32)), (.ref c1)]))
    have qz3 := own_ldJ Xj2 hx hZ ej2 f2_0 (j := (4 : Int32)) (v := (wk 4)) (by decide) rfl (g := (mkF m 17 #[.val (.ref c1), .val (.int (0 : Int32)), .val (.int (5 : Int32)), .val (.int (4 : Int32)), .val (.int (4 : Int32)), .val (.long x5), .second] [(.int (4 : Int32)), (.ref c1)])) rfl rfl (hb hby own_d_jdk_2529_method_15_code_17)
    refine OGo.st qz3 ?_
    show OGo p.tables e below _ (Tj2.setTop (mkF m 18 #[.val (.ref c1), .val (.int (0 : Int32)), .val (.int (5 : Int32)), .val (.int (4 : Int32)), .val (.int (4 : Int32)), .val (.long x5), .second] [(.long (wk 4))]))
    refine OGo.st (fun _ k_ => XS.lstore Xj2.here hx rfl (hb hby own_d_jdk_2529_method_15_code_18) rfl (l' := #[.val (.ref c1), .val (.int (0 : Int32)), .val (.int (5 : Int32)), .val (.int (4 : Int32)), .val (.int (4 : Int32)), .val (.long (wk 4)), .second]) rfl k_) ?_
    show OGo p.tables e below _ (Tj2.setTop (mkF m 20 #[.val (.ref c1), .val (.int (0 : Int32)), .val (.int (5 : Int32)), .val (.int (4 : Int32)), .val (.int (4 : Int32)), .val (.long (wk 4)), .second] []))
    refine OGo.st (fun _ k_ => XS.lload Xj2.here hx rfl (hb hby own_d_jdk_2529_method_15_code_20) rfl k_) ?_
    show OGo p.tables e below _ (Tj2.setTop (mkF m 22 #[.val (.ref c1), .val (.int (0 : Int32)), .val (.int (5 : Int32)), .val (.int (4 : Int32)), .val (.int (4 : Int32)), .val (.long (wk 4)), .second] [(.long (wk 4))]))
    refine OGo.st (fun _ k_ => XS.aloadN Xj2.here hx rfl (hb hby own_d_jdk_2529_method_15_code_22) rfl rfl k_) ?_
    show OGo p.tables e below _ (Tj2.setTop (mkF m 23 #[.val (.ref c1), .val (.int (0 : Int32)), .val (.int (5 : Int32)), .val (.int (4 : Int32)), .val (.int (4 : Int32)), .val (.long (wk 4)), .second] [(.ref c1), (.long (wk 4))]))
    refine OGo.st (fun _ k_ => XS.iloadN Xj2.here hx rfl (hb hby own_d_jdk_2529_method_15_code_23) rfl k_) ?_
    show OGo p.tables e below _ (Tj2.setTop (mkF m 24 #[.val (.ref c1), .val (.int (0 : Int32)), .val (.int (5 : Int32)), .val (.int (4 : Int32)), .val (.int (4 : Int32)), .val (.long (wk 4)), .second] [(.int (4 : Int32)), (.ref c1), (.long (wk 4))]))
    refine OGo.st (fun _ k_ => XS.iconst Xj2.here hx rfl (hb hby own_d_jdk_2529_method_15_code_24) k_) ?_
    show OGo p.tables e below _ (Tj2.setTop (mkF m 25 #[.val (.ref c1), .val (.int (0 : Int32)), .val (.int (5 : Int32)), .val (.int (4 : Int32)), .val (.int (4 : Int32)), .val (.long (wk 4)), .second] [(.int (1 : Int32)), (.int (4 : Int32)), (.ref c1), (.long (wk 4))]))
    refine OGo.st (fun _ k_ => XS.isub Xj2.here hx rfl (hb hby own_d_jdk_2529_method_15_code_25) rfl k_) ?_
    show OGo p.tables e below _ (Tj2.setTop (mkF m 26 #[.val (.ref c1), .val (.int (0 : Int32)), .val (.int (5 : Int32)), .val (.int (4 : Int32)), .val (.int (4 : Int32)), .val (.long (wk 4)), .second] [(.int (3 : Int32)), (.ref c1), (.long (wk 4))]))
    have qz4 := own_ldJ Xj2 hx hZ ej2 f2_0 (j := (3 : Int32)) (v := (wk 3)) (by decide) rfl (g := (mkF m 26 #[.val (.ref c1), .val (.int (0 : Int32)), .val (.int (5 : Int32)), .val (.int (4 : Int32)), .val (.int (4 : Int32)), .val (.long (wk 4)), .second] [(.int (3 : Int32)), (.ref c1), (.long (wk 4))])) rfl rfl (hb hby own_d_jdk_2529_method_15_code_26)
    refine OGo.st qz4 ?_
    show OGo p.tables e below _ (Tj2.setTop (mkF m 27 #[.val (.ref c1), .val (.int (0 : Int32)), .val (.int (5 : Int32)), .val (.int (4 : Int32)), .val (.int (4 : Int32)), .val (.long (wk 4)), .second] [(.long (wk 3)), (.long (wk 4))]))
    by_cases hc27 : (wk 4) < (wk 3)
    · refine OGo.st (fun _ k_ => XT.lcmp Xj2.here hx rfl (hb hby own_d_jdk_2529_method_15_code_27) rfl k_) ?_
      show OGo p.tables e below _ (Tj2.setTop (mkF m 28 #[.val (.ref c1), .val (.int (0 : Int32)), .val (.int (5 : Int32)), .val (.int (4 : Int32)), .val (.int (4 : Int32)), .val (.long (wk 4)), .second] [(.int (XT.cmpL (wk 4) (wk 3)))]))
      refine OGo.st (fun _ k_ => XS.ifNo Xj2.here hx rfl (hb hby own_d_jdk_2529_method_15_code_28) rfl (XT.ll_ge_f hc27) k_) ?_
      show OGo p.tables e below _ (Tj2.setTop (mkF m 31 #[.val (.ref c1), .val (.int (0 : Int32)), .val (.int (5 : Int32)), .val (.int (4 : Int32)), .val (.int (4 : Int32)), .val (.long (wk 4)), .second] []))
      refine OGo.st (fun _ k_ => XS.iinc Xj2.here hx rfl (hb hby own_d_jdk_2529_method_15_code_31) rfl (l' := #[.val (.ref c1), .val (.int (0 : Int32)), .val (.int (5 : Int32)), .val (.int (3 : Int32)), .val (.int (4 : Int32)), .val (.long (wk 4)), .second]) rfl k_) ?_
      show OGo p.tables e below _ (Tj2.setTop (mkF m 34 #[.val (.ref c1), .val (.int (0 : Int32)), .val (.int (5 : Int32)), .val (.int (3 : Int32)), .val (.int (4 : Int32)), .val (.long (wk 4)), .second] []))
      refine OGo.st (fun _ k_ => XS.iloadN Xj2.here hx rfl (hb hby own_d_jdk_2529_method_15_code_34) rfl k_) ?_
      show OGo p.tables e below _ (Tj2.setTop (mkF m 35 #[.val (.ref c1), .val (.int (0 : Int32)), .val (.int (5 : Int32)), .val (.int (3 : Int32)), .val (.int (4 : Int32)), .val (.long (wk 4)), .second] [(.int (3 : Int32))]))
      refine OGo.st (fun _ k_ => XS.iloadN Xj2.here hx rfl (hb hby own_d_jdk_2529_method_15_code_35) rfl k_) ?_
      show OGo p.tables e below _ (Tj2.setTop (mkF m 36 #[.val (.ref c1), .val (.int (0 : Int32)), .val (.int (5 : Int32)), .val (.int (3 : Int32)), .val (.int (4 : Int32)), .val (.long (wk 4)), .second] [(.int (0 : Int32)), (.int (3 : Int32))]))
      refine OGo.st (fun _ k_ => XS.icmpNo Xj2.here hx rfl (hb hby own_d_jdk_2529_method_15_code_36) rfl (XT.ii_lt_f (by decide)) k_) ?_
      show OGo p.tables e below _ (Tj2.setTop (mkF m 39 #[.val (.ref c1), .val (.int (0 : Int32)), .val (.int (5 : Int32)), .val (.int (3 : Int32)), .val (.int (4 : Int32)), .val (.long (wk 4)), .second] []))
      refine OGo.st (fun _ k_ => XS.lload Xj2.here hx rfl (hb hby own_d_jdk_2529_method_15_code_39) rfl k_) ?_
      show OGo p.tables e below _ (Tj2.setTop (mkF m 41 #[.val (.ref c1), .val (.int (0 : Int32)), .val (.int (5 : Int32)), .val (.int (3 : Int32)), .val (.int (4 : Int32)), .val (.long (wk 4)), .second] [(.long (wk 4))]))
      refine OGo.st (fun _ k_ => XS.aloadN Xj2.here hx rfl (hb hby own_d_jdk_2529_method_15_code_41) rfl rfl k_) ?_
      show OGo p.tables e below _ (Tj2.setTop (mkF m 42 #[.val (.ref c1), .val (.int (0 : Int32)), .val (.int (5 : Int32)), .val (.int (3 : Int32)), .val (.int (4 : Int32)), .val (.long (wk 4)), .second] [(.ref c1), (.long (wk 4))]))
      refine OGo.st (fun _ k_ => XS.iloadN Xj2.here hx rfl (hb hby own_d_jdk_2529_method_15_code_42) rfl k_) ?_
      show OGo p.tables e below _ (Tj2.setTop (mkF m 43 #[.val (.ref c1), .val (.int (0 : Int32)), .val (.int (5 : Int32)), .val (.int (3 : Int32)), .val (.int (4 : Int32)), .val (.long (wk 4)), .second] [(.int (3 : Int32)), (.ref c1), (.long (wk 4))]))
      have qz5 := own_ldJ Xj2 hx hZ ej2 f2_0 (j := (3 : Int32)) (v := (wk 3)) (by decide) rfl (g := (mkF m 43 #[.val (.ref c1), .val (.int (0 : Int32)), .val (.int (5 : Int32)), .val (.int (3 : Int32)), .val (.int (4 : Int32)), .val (.long (wk 4)), .second] [(.int (3 : Int32)), (.ref c1), (.long (wk 4))])) rfl rfl (hb hby own_d_jdk_2529_method_15_code_43)
      refine OGo.st qz5 ?_
      show OGo p.tables e below _ (Tj2.setTop (mkF m 44 #[.val (.ref c1), .val (.int (0 : Int32)), .val (.int (5 : Int32)), .val (.int (3 : Int32)), .val (.int (4 : Int32)), .val (.long (wk 4)), .second] [(.long (wk 3)), (.long (wk 4))]))
      refine OGo.st (fun _ k_ => XT.lcmp Xj2.here hx rfl (hb hby own_d_jdk_2529_method_15_code_44) rfl k_) ?_
      show OGo p.tables e below _ (Tj2.setTop (mkF m 45 #[.val (.ref c1), .val (.int (0 : Int32)), .val (.int (5 : Int32)), .val (.int (3 : Int32)), .val (.int (4 : Int32)), .val (.long (wk 4)), .second] [(.int (XT.cmpL (wk 4) (wk 3)))]))
      refine OGo.st (fun _ k_ => XS.ifNo Xj2.here hx rfl (hb hby own_d_jdk_2529_method_15_code_45) rfl (XT.ll_ge_f hc27) k_) ?_
      show OGo p.tables e below _ (Tj2.setTop (mkF m 48 #[.val (.ref c1), .val (.int (0 : Int32)), .val (.int (5 : Int32)), .val (.int (3 : Int32)), .val (.int (4 : Int32)), .val (.long (wk 4)), .second] []))
      refine OGo.st (fun _ k_ => XS.aloadN Xj2.here hx rfl (hb hby own_d_jdk_2529_method_15_code_48) rfl rfl k_) ?_
      show OGo p.tables e below _ (Tj2.setTop (mkF m 49 #[.val (.ref c1), .val (.int (0 : Int32)), .val (.int (5 : Int32)), .val (.int (3 : Int32)), .val (.int (4 : Int32)), .val (.long (wk 4)), .second] [(.ref c1)]))
      refine OGo.st (fun _ k_ => XS.iloadN Xj2.here hx rfl (hb hby own_d_jdk_2529_method_15_code_49) rfl k_) ?_
      show OGo p.tables e below _ (Tj2.setTop (mkF m 50 #[.val (.ref c1), .val (.int (0 : Int32)), .val (.int (5 : Int32)), .val (.int (3 : Int32)), .val (.int (4 : Int32)), .val (.long (wk 4)), .second] [(.int (3 : Int32)), (.ref c1)]))
      refine OGo.st (fun _ k_ => XS.iconst Xj2.here hx rfl (hb hby own_d_jdk_2529_method_15_code_50) k_) ?_
      show OGo p.tables e below _ (Tj2.setTop (mkF m 51 #[.val (.ref c1), .val (.int (0 : Int32)), .val (.int (5 : Int32)), .val (.int (3 : Int32)), .val (.int (4 : Int32)), .val (.long (wk 4)), .second] [(.int (1 : Int32)), (.int (3 : Int32)), (.ref c1)]))
      refine OGo.st (fun _ k_ => XS.iadd Xj2.here hx rfl (hb hby own_d_jdk_2529_method_15_code_51) rfl k_) ?_
      show OGo p.tables e below _ (Tj2.setTop (mkF m 52 #[.val (.ref c1), .val (.int (0 : Int32)), .val (.int (5 : Int32)), .val (.int (3 : Int32)), .val (.int (4 : Int32)), .val (.long (wk 4)), .second] [(.int (4 : Int32)), (.ref c1)]))
      refine OGo.st (fun _ k_ => XS.aloadN Xj2.here hx rfl (hb hby own_d_jdk_2529_method_15_code_52) rfl rfl k_) ?_
      show OGo p.tables e below _ (Tj2.setTop (mkF m 53 #[.val (.ref c1), .val (.int (0 : Int32)), .val (.int (5 : Int32)), .val (.int (3 : Int32)), .val (.int (4 : Int32)), .val (.long (wk 4)), .second] [(.ref c1), (.int (4 : Int32)), (.ref c1)]))
      refine OGo.st (fun _ k_ => XS.iloadN Xj2.here hx rfl (hb hby own_d_jdk_2529_method_15_code_53) rfl k_) ?_
      show OGo p.tables e below _ (Tj2.setTop (mkF m 54 #[.val (.ref c1), .val (.int (0 : Int32)), .val (.int (5 : Int32)), .val (.int (3 : Int32)), .val (.int (4 : Int32)), .val (.long (wk 4)), .second] [(.int (3 : Int32)), (.ref c1), (.int (4 : Int32)), (.ref c1)]))
      have qz6 := own_ldJ Xj2 hx hZ ej2 f2_0 (j := (3 : Int32)) (v := (wk 3)) (by decide) rfl (g := (mkF m 54 #[.val (.ref c1), .val (.int (0 : Int32)), .val (.int (5 : Int32)), .val (.int (3 : Int32)), .val (.int (4 : Int32)), .val (.long (wk 4)), .second] [(.int (3 : Int32)), (.ref c1), (.int (4 : Int32)), (.ref c1)])) rfl rfl (hb hby own_d_jdk_2529_method_15_code_54)
      refine OGo.st qz6 ?_
      show OGo p.tables e below _ (Tj2.setTop (mkF m 55 #[.val (.ref c1), .val (.int (0 : Int32)), .val (.int (5 : Int32)), .val (.int (3 : Int32)), .val (.int (4 : Int32)), .val (.long (wk 4)), .second] [(.long (wk 3)), (.int (4 : Int32)), (.ref c1)]))
      obtain ⟨T7, hz7, X7, ez7, W7, V7, st7⟩ := own_stJ Xj2 hx hZ ej2 f2_0 (j := (4 : Int32)) (by decide)  (g := (mkF m 55 #[.val (.ref c1), .val (.int (0 : Int32)), .val (.int (5 : Int32)), .val (.int (3 : Int32)), .val (.int (4 : Int32)), .val (.long (wk 4)), .second] [(.long (wk 3)), (.int (4 : Int32)), (.ref c1)])) rfl rfl (hb hby own_d_jdk_2529_method_15_code_55)
      have N7 := Fr.snoc X7 Nj2 g_c1
      have K_8 : Keep h0 hz7 [c1] := Kj2.wr W7 (Or.inl (List.mem_of_getElem? (i := 0) rfl))
      refine OGo.st st7 ?_
      show OGo p.tables e below _ (T7.setTop (mkF m 56 #[.val (.ref c1), .val (.int (0 : Int32)), .val (.int (5 : Int32)), .val (.int (3 : Int32)), .val (.int (4 : Int32)), .val (.long (wk 4)), .second] []))
      refine OGo.st (fun _ k_ => XS.goto X7.here hx rfl (pc0 := 56) (pc' := 31) rfl (hb hby own_d_jdk_2529_method_15_code_56) (by decide) (by decide) k_) ?_
      show OGo p.tables e below _ (T7.setTop (mkF m 31 #[.val (.ref c1), .val (.int (0 : Int32)), .val (.int (5 : Int32)), .val (.int (3 : Int32)), .val (.int (4 : Int32)), .val (.long (wk 4)), .second] []))
      refine OGo.st (fun _ k_ => XS.iinc X7.here hx rfl (hb hby own_d_jdk_2529_method_15_code_31) rfl (l' := #[.val (.ref c1), .val (.int (0 : Int32)), .val (.int (5 : Int32)), .val (.int (2 : Int32)), .val (.int (4 : Int32)), .val (.long (wk 4)), .second]) rfl k_) ?_
      show OGo p.tables e below _ (T7.setTop (mkF m 34 #[.val (.ref c1), .val (.int (0 : Int32)), .val (.int (5 : Int32)), .val (.int (2 : Int32)), .val (.int (4 : Int32)), .val (.long (wk 4)), .second] []))
      refine OGo.st (fun _ k_ => XS.iloadN X7.here hx rfl (hb hby own_d_jdk_2529_method_15_code_34) rfl k_) ?_
      show OGo p.tables e below _ (T7.setTop (mkF m 35 #[.val (.ref c1), .val (.int (0 : Int32)), .val (.int (5 : Int32)), .val (.int (2 : Int32)), .val (.int (4 : Int32)), .val (.long (wk 4)), .second] [(.int (2 : Int32))]))
      refine OGo.st (fun _ k_ => XS.iloadN X7.here hx rfl (hb hby own_d_jdk_2529_method_15_code_35) rfl k_) ?_
      show OGo p.tables e below _ (T7.setTop (mkF m 36 #[.val (.ref c1), .val (.int (0 : Int32)), .val (.int (5 : Int32)), .val (.int (2 : Int32)), .val (.int (4 : Int32)), .val (.long (wk 4)), .second] [(.int (0 : Int32)), (.int (2 : Int32))]))
      refine OGo.st (fun _ k_ => XS.icmpNo X7.here hx rfl (hb hby own_d_jdk_2529_method_15_code_36) rfl (XT.ii_lt_f (by decide)) k_) ?_
      show OGo p.tables e below _ (T7.setTop (mkF m 39 #[.val (.ref c1), .val (.int (0 : Int32)), .val (.int (5 : Int32)), .val (.int (2 : Int32)), .val (.int (4 : Int32)), .val (.long (wk 4)), .second] []))
      refine OGo.st (fun _ k_ => XS.lload X7.here hx rfl (hb hby own_d_jdk_2529_method_15_code_39) rfl k_) ?_
      show OGo p.tables e below _ (T7.setTop (mkF m 41 #[.val (.ref c1), .val (.int (0 : Int32)), .val (.int (5 : Int32)), .val (.int (2 : Int32)), .val (.int (4 : Int32)), .val (.long (wk 4)), .second] [(.long (wk 4))]))
      refine OGo.st (fun _ k_ => XS.aloadN X7.here hx rfl (hb hby own_d_jdk_2529_method_15_code_41) rfl rfl k_) ?_
      show OGo p.tables e below _ (T7.setTop (mkF m 42 #[.val (.ref c1), .val (.int (0 : Int32)), .val (.int (5 : Int32)), .val (.int (2 : Int32)), .val (.int (4 : Int32)), .val (.long (wk 4)), .second] [(.ref c1), (.long (wk 4))]))
      refine OGo.st (fun _ k_ => XS.iloadN X7.here hx rfl (hb hby own_d_jdk_2529_method_15_code_42) rfl k_) ?_
      show OGo p.tables e below _ (T7.setTop (mkF m 43 #[.val (.ref c1), .val (.int (0 : Int32)), .val (.int (5 : Int32)), .val (.int (2 : Int32)), .val (.int (4 : Int32)), .val (.long (wk 4)), .second] [(.int (2 : Int32)), (.ref c1), (.long (wk 4))]))
      have qz9 := own_ldJ X7 hx hZ ez7 V7 (j := (2 : Int32)) (v := (wk 2)) (by decide) rfl (g := (mkF m 43 #[.val (.ref c1), .val (.int (0 : Int32)), .val (.int (5 : Int32)), .val (.int (2 : Int32)), .val (.int (4 : Int32)), .val (.long (wk 4)), .second] [(.int (2 : Int32)), (.ref c1), (.long (wk 4))])) rfl rfl (hb hby own_d_jdk_2529_method_15_code_43)
      refine OGo.st qz9 ?_
      show OGo p.tables e below _ (T7.setTop (mkF m 44 #[.val (.ref c1), .val (.int (0 : Int32)), .val (.int (5 : Int32)), .val (.int (2 : Int32)), .val (.int (4 : Int32)), .val (.long (wk 4)), .second] [(.long (wk 2)), (.long (wk 4))]))
      by_cases hc44 : (wk 4) < (wk 2)
      · refine OGo.st (fun _ k_ => XT.lcmp X7.here hx rfl (hb hby own_d_jdk_2529_method_15_code_44) rfl k_) ?_
        show OGo p.tables e below _ (T7.setTop (mkF m 45 #[.val (.ref c1), .val (.int (0 : Int32)), .val (.int (5 : Int32)), .val (.int (2 : Int32)), .val (.int (4 : Int32)), .val (.long (wk 4)), .second] [(.int (XT.cmpL (wk 4) (wk 2)))]))
        refine OGo.st (fun _ k_ => XS.ifNo X7.here hx rfl (hb hby own_d_jdk_2529_method_15_code_45) rfl (XT.ll_ge_f hc44) k_) ?_
        show OGo p.tables e below _ (T7.setTop (mkF m 48 #[.val (.ref c1), .val (.int (0 : Int32)), .val (.int (5 : Int32)), .val (.int (2 : Int32)), .val (.int (4 : Int32)), .val (.long (wk 4)), .second] []))
        refine OGo.st (fun _ k_ => XS.aloadN X7.here hx rfl (hb hby own_d_jdk_2529_method_15_code_48) rfl rfl k_) ?_
        show OGo p.tables e below _ (T7.setTop (mkF m 49 #[.val (.ref c1), .val (.int (0 : Int32)), .val (.int (5 : Int32)), .val (.int (2 : Int32)), .val (.int (4 : Int32)), .val (.long (wk 4)), .second] [(.ref c1)]))
        refine OGo.st (fun _ k_ => XS.iloadN X7.here hx rfl (hb hby own_d_jdk_2529_method_15_code_49) rfl k_) ?_
        show OGo p.tables e below _ (T7.setTop (mkF m 50 #[.val (.ref c1), .val (.int (0 : Int32)), .val (.int (5 : Int32)), .val (.int (2 : Int32)), .val (.int (4 : Int32)), .val (.long (wk 4)), .second] [(.int (2 : Int32)), (.ref c1)]))
        refine OGo.st (fun _ k_ => XS.iconst X7.here hx rfl (hb hby own_d_jdk_2529_method_15_code_50) k_) ?_
        show OGo p.tables e below _ (T7.setTop (mkF m 51 #[.val (.ref c1), .val (.int (0 : Int32)), .val (.int (5 : Int32)), .val (.int (2 : Int32)), .val (.int (4 : Int32)), .val (.long (wk 4)), .second] [(.int (1 : Int32)), (.int (2 : Int32)), (.ref c1)]))
        refine OGo.st (fun _ k_ => XS.iadd X7.here hx rfl (hb hby own_d_jdk_2529_method_15_code_51) rfl k_) ?_
        show OGo p.tables e below _ (T7.setTop (mkF m 52 #[.val (.ref c1), .val (.int (0 : Int32)), .val (.int (5 : Int32)), .val (.int (2 : Int32)), .val (.int (4 : Int32)), .val (.long (wk 4)), .second] [(.int (3 : Int32)), (.ref c1)]))
        refine OGo.st (fun _ k_ => XS.aloadN X7.here hx rfl (hb hby own_d_jdk_2529_method_15_code_52) rfl rfl k_) ?_
        show OGo p.tables e below _ (T7.setTop (mkF m 53 #[.val (.ref c1), .val (.int (0 : Int32)), .val (.int (5 : Int32)), .val (.int (2 : Int32)), .val (.int (4 : Int32)), .val (.long (wk 4)), .second] [(.ref c1), (.int (3 : Int32)), (.ref c1)]))
        refine OGo.st (fun _ k_ => XS.iloadN X7.here hx rfl (hb hby own_d_jdk_2529_method_15_code_53) rfl k_) ?_
        show OGo p.tables e below _ (T7.setTop (mkF m 54 #[.val (.ref c1), .val (.int (0 : Int32)), .val (.int (5 : Int32)), .val (.int (2 : Int32)), .val (.int (4 : Int32)), .val (.long (wk 4)), .second] [(.int (2 : Int32)), (.ref c1), (.int (3 : Int32)), (.ref c1)]))
        have qz10 := own_ldJ X7 hx hZ ez7 V7 (j := (2 : Int32)) (v := (wk 2)) (by decide) rfl (g := (mkF m 54 #[.val (.ref c1), .val (.int (0 : Int32)), .val (.int (5 : Int32)), .val (.int (2 : Int32)), .val (.int (4 : Int32)), .val (.long (wk 4)), .second] [(.int (2 : Int32)), (.ref c1), (.int (3 : Int32)), (.ref c1)])) rfl rfl (hb hby own_d_jdk_2529_method_15_code_54)
        refine OGo.st qz10 ?_
        show OGo p.tables e below _ (T7.setTop (mkF m 55 #[.val (.ref c1), .val (.int (0 : Int32)), .val (.int (5 : Int32)), .val (.int (2 : Int32)), .val (.int (4 : Int32)), .val (.long (wk 4)), .second] [(.long (wk 2)), (.int (3 : Int32)), (.ref c1)]))
        obtain ⟨T11, hz11, X11, ez11, W11, V11, st11⟩ := own_stJ X7 hx hZ ez7 V7 (j := (3 : Int32)) (by decide)  (g := (mkF m 55 #[.val (.ref c1), .val (.int (0 : Int32)), .val (.int (5 : Int32)), .val (.int (2 : Int32)), .val (.int (4 : Int32)), .val (.long (wk 4)), .second] [(.long (wk 2)), (.int (3 : Int32)), (.ref c1)])) rfl rfl (hb hby own_d_jdk_2529_method_15_code_55)
        have N11 := Fr.snoc X11 N7 g_c1
        have K_12 : Keep h0 hz11 [c1] := K_8.wr W11 (Or.inl (List.mem_of_getElem? (i := 0) rfl))
        refine OGo.st st11 ?_
        show OGo p.tables e below _ (T11.setTop (mkF m 56 #[.val (.ref c1), .val (.int (0 : Int32)), .val (.int (5 : Int32)), .val (.int (2 : Int32)), .val (.int (4 : Int32)), .val (.long (wk 4)), .second] []))
        refine OGo.st (fun _ k_ => XS.goto X11.here hx rfl (pc0 := 56) (pc' := 31) rfl (hb hby own_d_jdk_2529_method_15_code_56) (by decide) (by decide) k_) ?_
        show OGo p.tables e below _ (T11.setTop (mkF m 31 #[.val (.ref c1), .val (.int (0 : Int32)), .val (.int (5 : Int32)), .val (.int (2 : Int32)), .val (.int (4 : Int32)), .val (.long (wk 4)), .second] []))
        refine OGo.st (fun _ k_ => XS.iinc X11.here hx rfl (hb hby own_d_jdk_2529_method_15_code_31) rfl (l' := #[.val (.ref c1), .val (.int (0 : Int32)), .val (.int (5 : Int32)), .val (.int (1 : Int32)), .val (.int (4 : Int32)), .val (.long (wk 4)), .second]) rfl k_) ?_
        show OGo p.tables e below _ (T11.setTop (mkF m 34 #[.val (.ref c1), .val (.int (0 : Int32)), .val (.int (5 : Int32)), .val (.int (1 : Int32)), .val (.int (4 : Int32)), .val (.long (wk 4)), .second] []))
        refine OGo.st (fun _ k_ => XS.iloadN X11.here hx rfl (hb hby own_d_jdk_2529_method_15_code_34) rfl k_) ?_
        show OGo p.tables e below _ (T11.setTop (mkF m 35 #[.val (.ref c1), .val (.int (0 : Int32)), .val (.int (5 : Int32)), .val (.int (1 : Int32)), .val (.int (4 : Int32)), .val (.long (wk 4)), .second] [(.int (1 : Int32))]))
        refine OGo.st (fun _ k_ => XS.iloadN X11.here hx rfl (hb hby own_d_jdk_2529_method_15_code_35) rfl k_) ?_
        show OGo p.tables e below _ (T11.setTop (mkF m 36 #[.val (.ref c1), .val (.int (0 : Int32)), .val (.int (5 : Int32)), .val (.int (1 : Int32)), .val (.int (4 : Int32)), .val (.long (wk 4)), .second] [(.int (0 : Int32)), (.int (1 : Int32))]))
        refine OGo.st (fun _ k_ => XS.icmpNo X11.here hx rfl (hb hby own_d_jdk_2529_method_15_code_36) rfl (XT.ii_lt_f (by decide)) k_) ?_
        show OGo p.tables e below _ (T11.setTop (mkF m 39 #[.val (.ref c1), .val (.int (0 : Int32)), .val (.int (5 : Int32)), .val (.int (1 : Int32)), .val (.int (4 : Int32)), .val (.long (wk 4)), .second] []))
        refine OGo.st (fun _ k_ => XS.lload X11.here hx rfl (hb hby own_d_jdk_2529_method_15_code_39) rfl k_) ?_
        show OGo p.tables e below _ (T11.setTop (mkF m 41 #[.val (.ref c1), .val (.int (0 : Int32)), .val (.int (5 : Int32)), .val (.int (1 : Int32)), .val (.int (4 : Int32)), .val (.long (wk 4)), .second] [(.long (wk 4))]))
        refine OGo.st (fun _ k_ => XS.aloadN X11.here hx rfl (hb hby own_d_jdk_2529_method_15_code_41) rfl rfl k_) ?_
        show OGo p.tables e below _ (T11.setTop (mkF m 42 #[.val (.ref c1), .val (.int (0 : Int32)), .val (.int (5 : Int32)), .val (.int (1 : Int32)), .val (.int (4 : Int32)), .val (.long (wk 4)), .second] [(.ref c1), (.long (wk 4))]))
        refine OGo.st (fun _ k_ => XS.iloadN X11.here hx rfl (hb hby own_d_jdk_2529_method_15_code_42) rfl k_) ?_
        show OGo p.tables e below _ (T11.setTop (mkF m 43 #[.val (.ref c1), .val (.int (0 : Int32)), .val (.int (5 : Int32)), .val (.int (1 : Int32)), .val (.int (4 : Int32)), .val (.long (wk 4)), .second] [(.int (1 : Int32)), (.ref c1), (.long (wk 4))]))
        have qz13 := own_ldJ X11 hx hZ ez11 V11 (j := (1 : Int32)) (v := (wk 1)) (by decide) rfl (g := (mkF m 43 #[.val (.ref c1), .val (.int (0 : Int32)), .val (.int (5 : Int32)), .val (.int (1 : Int32)), .val (.int (4 : Int32)), .val (.long (wk 4)), .second] [(.int (1 : Int32)), (.ref c1), (.long (wk 4))])) rfl rfl (hb hby own_d_jdk_2529_method_15_code_43)
        refine OGo.st qz13 ?_
        show OGo p.tables e below _ (T11.setTop (mkF m 44 #[.val (.ref c1), .val (.int (0 : Int32)), .val (.int (5 : Int32)), .val (.int (1 : Int32)), .val (.int (4 : Int32)), .val (.long (wk 4)), .second] [(.long (wk 1)), (.long (wk 4))]))
        by_cases hc44_14 : (wk 4) < (wk 1)
        · refine OGo.st (fun _ k_ => XT.lcmp X11.here hx rfl (hb hby own_d_jdk_2529_method_15_code_44) rfl k_) ?_
          show OGo p.tables e below _ (T11.setTop (mkF m 45 #[.val (.ref c1), .val (.int (0 : Int32)), .val (.int (5 : Int32)), .val (.int (1 : Int32)), .val (.int (4 : Int32)), .val (.long (wk 4)), .second] [(.int (XT.cmpL (wk 4) (wk 1)))]))
          refine OGo.st (fun _ k_ => XS.ifNo X11.here hx rfl (hb hby own_d_jdk_2529_method_15_code_45) rfl (XT.ll_ge_f hc44_14) k_) ?_
          show OGo p.tables e below _ (T11.setTop (mkF m 48 #[.val (.ref c1), .val (.int (0 : Int32)), .val (.int (5 : Int32)), .val (.int (1 : Int32)), .val (.int (4 : Int32)), .val (.long (wk 4)), .second] []))
          refine OGo.st (fun _ k_ => XS.aloadN X11.here hx rfl (hb hby own_d_jdk_2529_method_15_code_48) rfl rfl k_) ?_
          show OGo p.tables e below _ (T11.setTop (mkF m 49 #[.val (.ref c1), .val (.int (0 : Int32)), .val (.int (5 : Int32)), .val (.int (1 : Int32)), .val (.int (4 : Int32)), .val (.long (wk 4)), .second] [(.ref c1)]))
          refine OGo.st (fun _ k_ => XS.iloadN X11.here hx rfl (hb hby own_d_jdk_2529_method_15_code_49) rfl k_) ?_
          show OGo p.tables e below _ (T11.setTop (mkF m 50 #[.val (.ref c1), .val (.int (0 : Int32)), .val (.int (5 : Int32)), .val (.int (1 : Int32)), .val (.int (4 : Int32)), .val (.long (wk 4)), .second] [(.int (1 : Int32)), (.ref c1)]))
          refine OGo.st (fun _ k_ => XS.iconst X11.here hx rfl (hb hby own_d_jdk_2529_method_15_code_50) k_) ?_
          show OGo p.tables e below _ (T11.setTop (mkF m 51 #[.val (.ref c1), .val (.int (0 : Int32)), .val (.int (5 : Int32)), .val (.int (1 : Int32)), .val (.int (4 : Int32)), .val (.long (wk 4)), .second] [(.int (1 : Int32)), (.int (1 : Int32)), (.ref c1)]))
          refine OGo.st (fun _ k_ => XS.iadd X11.here hx rfl (hb hby own_d_jdk_2529_method_15_code_51) rfl k_) ?_
          show OGo p.tables e below _ (T11.setTop (mkF m 52 #[.val (.ref c1), .val (.int (0 : Int32)), .val (.int (5 : Int32)), .val (.int (1 : Int32)), .val (.int (4 : Int32)), .val (.long (wk 4)), .second] [(.int (2 : Int32)), (.ref c1)]))
          refine OGo.st (fun _ k_ => XS.aloadN X11.here hx rfl (hb hby own_d_jdk_2529_method_15_code_52) rfl rfl k_) ?_
          show OGo p.tables e below _ (T11.setTop (mkF m 53 #[.val (.ref c1), .val (.int (0 : Int32)), .val (.int (5 : Int32)), .val (.int (1 : Int32)), .val (.int (4 : Int32)), .val (.long (wk 4)), .second] [(.ref c1), (.int (2 : Int32)), (.ref c1)]))
          refine OGo.st (fun _ k_ => XS.iloadN X11.here hx rfl (hb hby own_d_jdk_2529_method_15_code_53) rfl k_) ?_
          show OGo p.tables e below _ (T11.setTop (mkF m 54 #[.val (.ref c1), .val (.int (0 : Int32)), .val (.int (5 : Int32)), .val (.int (1 : Int32)), .val (.int (4 : Int32)), .val (.long (wk 4)), .second] [(.int (1 : Int32)), (.ref c1), (.int (2 : Int32)), (.ref c1)]))
          have qz15 := own_ldJ X11 hx hZ ez11 V11 (j := (1 : Int32)) (v := (wk 1)) (by decide) rfl (g := (mkF m 54 #[.val (.ref c1), .val (.int (0 : Int32)), .val (.int (5 : Int32)), .val (.int (1 : Int32)), .val (.int (4 : Int32)), .val (.long (wk 4)), .second] [(.int (1 : Int32)), (.ref c1), (.int (2 : Int32)), (.ref c1)])) rfl rfl (hb hby own_d_jdk_2529_method_15_code_54)
          refine OGo.st qz15 ?_
          show OGo p.tables e below _ (T11.setTop (mkF m 55 #[.val (.ref c1), .val (.int (0 : Int32)), .val (.int (5 : Int32)), .val (.int (1 : Int32)), .val (.int (4 : Int32)), .val (.long (wk 4)), .second] [(.long (wk 1)), (.int (2 : Int32)), (.ref c1)]))
          obtain ⟨T16, hz16, X16, ez16, W16, V16, st16⟩ := own_stJ X11 hx hZ ez11 V11 (j := (2 : Int32)) (by decide)  (g := (mkF m 55 #[.val (.ref c1), .val (.int (0 : Int32)), .val (.int (5 : Int32)), .val (.int (1 : Int32)), .val (.int (4 : Int32)), .val (.long (wk 4)), .second] [(.long (wk 1)), (.int (2 : Int32)), (.ref c1)])) rfl rfl (hb hby own_d_jdk_2529_method_15_code_55)
          have N16 := Fr.snoc X16 N11 g_c1
          have K_17 : Keep h0 hz16 [c1] := K_12.wr W16 (Or.inl (List.mem_of_getElem? (i := 0) rfl))
          refine OGo.st st16 ?_
          show OGo p.tables e below _ (T16.setTop (mkF m 56 #[.val (.ref c1), .val (.int (0 : Int32)), .val (.int (5 : Int32)), .val (.int (1 : Int32)), .val (.int (4 : Int32)), .val (.long (wk 4)), .second] []))
          refine OGo.st (fun _ k_ => XS.goto X16.here hx rfl (pc0 := 56) (pc' := 31) rfl (hb hby own_d_jdk_2529_method_15_code_56) (by decide) (by decide) k_) ?_
          show OGo p.tables e below _ (T16.setTop (mkF m 31 #[.val (.ref c1), .val (.int (0 : Int32)), .val (.int (5 : Int32)), .val (.int (1 : Int32)), .val (.int (4 : Int32)), .val (.long (wk 4)), .second] []))
          refine OGo.st (fun _ k_ => XS.iinc X16.here hx rfl (hb hby own_d_jdk_2529_method_15_code_31) rfl (l' := #[.val (.ref c1), .val (.int (0 : Int32)), .val (.int (5 : Int32)), .val (.int (0 : Int32)), .val (.int (4 : Int32)), .val (.long (wk 4)), .second]) rfl k_) ?_
          show OGo p.tables e below _ (T16.setTop (mkF m 34 #[.val (.ref c1), .val (.int (0 : Int32)), .val (.int (5 : Int32)), .val (.int (0 : Int32)), .val (.int (4 : Int32)), .val (.long (wk 4)), .second] []))
          refine OGo.st (fun _ k_ => XS.iloadN X16.here hx rfl (hb hby own_d_jdk_2529_method_15_code_34) rfl k_) ?_
          show OGo p.tables e below _ (T16.setTop (mkF m 35 #[.val (.ref c1), .val (.int (0 : Int32)), .val (.int (5 : Int32)), .val (.int (0 : Int32)), .val (.int (4 : Int32)), .val (.long (wk 4)), .second] [(.int (0 : Int32))]))
          refine OGo.st (fun _ k_ => XS.iloadN X16.here hx rfl (hb hby own_d_jdk_2529_method_15_code_35) rfl k_) ?_
          show OGo p.tables e below _ (T16.setTop (mkF m 36 #[.val (.ref c1), .val (.int (0 : Int32)), .val (.int (5 : Int32)), .val (.int (0 : Int32)), .val (.int (4 : Int32)), .val (.long (wk 4)), .second] [(.int (0 : Int32)), (.int (0 : Int32))]))
          refine OGo.st (fun _ k_ => XS.icmpNo X16.here hx rfl (hb hby own_d_jdk_2529_method_15_code_36) rfl (XT.ii_lt_f (by decide)) k_) ?_
          show OGo p.tables e below _ (T16.setTop (mkF m 39 #[.val (.ref c1), .val (.int (0 : Int32)), .val (.int (5 : Int32)), .val (.int (0 : Int32)), .val (.int (4 : Int32)), .val (.long (wk 4)), .second] []))
          refine OGo.st (fun _ k_ => XS.lload X16.here hx rfl (hb hby own_d_jdk_2529_method_15_code_39) rfl k_) ?_
          show OGo p.tables e below _ (T16.setTop (mkF m 41 #[.val (.ref c1), .val (.int (0 : Int32)), .val (.int (5 : Int32)), .val (.int (0 : Int32)), .val (.int (4 : Int32)), .val (.long (wk 4)), .second] [(.long (wk 4))]))
          refine OGo.st (fun _ k_ => XS.aloadN X16.here hx rfl (hb hby own_d_jdk_2529_method_15_code_41) rfl rfl k_) ?_
          show OGo p.tables e below _ (T16.setTop (mkF m 42 #[.val (.ref c1), .val (.int (0 : Int32)), .val (.int (5 : Int32)), .val (.int (0 : Int32)), .val (.int (4 : Int32)), .val (.long (wk 4)), .second] [(.ref c1), (.long (wk 4))]))
          refine OGo.st (fun _ k_ => XS.iloadN X16.here hx rfl (hb hby own_d_jdk_2529_method_15_code_42) rfl k_) ?_
          show OGo p.tables e below _ (T16.setTop (mkF m 43 #[.val (.ref c1), .val (.int (0 : Int32)), .val (.int (5 : Int32)), .val (.int (0 : Int32)), .val (.int (4 : Int32)), .val (.long (wk 4)), .second] [(.int (0 : Int32)), (.ref c1), (.long (wk 4))]))
          have qz18 := own_ldJ X16 hx hZ ez16 V16 (j := (0 : Int32)) (v := (wk 0)) (by decide) rfl (g := (mkF m 43 #[.val (.ref c1), .val (.int (0 : Int32)), .val (.int (5 : Int32)), .val (.int (0 : Int32)), .val (.int (4 : Int32)), .val (.long (wk 4)), .second] [(.int (0 : Int32)), (.ref c1), (.long (wk 4))])) rfl rfl (hb hby own_d_jdk_2529_method_15_code_43)
          refine OGo.st qz18 ?_
          show OGo p.tables e below _ (T16.setTop (mkF m 44 #[.val (.ref c1), .val (.int (0 : Int32)), .val (.int (5 : Int32)), .val (.int (0 : Int32)), .val (.int (4 : Int32)), .val (.long (wk 4)), .second] [(.long (wk 0)), (.long (wk 4))]))
          by_cases hc44_19 : (wk 4) < (wk 0)
          · refine OGo.st (fun _ k_ => XT.lcmp X16.here hx rfl (hb hby own_d_jdk_2529_method_15_code_44) rfl k_) ?_
            show OGo p.tables e below _ (T16.setTop (mkF m 45 #[.val (.ref c1), .val (.int (0 : Int32)), .val (.int (5 : Int32)), .val (.int (0 : Int32)), .val (.int (4 : Int32)), .val (.long (wk 4)), .second] [(.int (XT.cmpL (wk 4) (wk 0)))]))
            refine OGo.st (fun _ k_ => XS.ifNo X16.here hx rfl (hb hby own_d_jdk_2529_method_15_code_45) rfl (XT.ll_ge_f hc44_19) k_) ?_
            show OGo p.tables e below _ (T16.setTop (mkF m 48 #[.val (.ref c1), .val (.int (0 : Int32)), .val (.int (5 : Int32)), .val (.int (0 : Int32)), .val (.int (4 : Int32)), .val (.long (wk 4)), .second] []))
            refine OGo.st (fun _ k_ => XS.aloadN X16.here hx rfl (hb hby own_d_jdk_2529_method_15_code_48) rfl rfl k_) ?_
            show OGo p.tables e below _ (T16.setTop (mkF m 49 #[.val (.ref c1), .val (.int (0 : Int32)), .val (.int (5 : Int32)), .val (.int (0 : Int32)), .val (.int (4 : Int32)), .val (.long (wk 4)), .second] [(.ref c1)]))
            refine OGo.st (fun _ k_ => XS.iloadN X16.here hx rfl (hb hby own_d_jdk_2529_method_15_code_49) rfl k_) ?_
            show OGo p.tables e below _ (T16.setTop (mkF m 50 #[.val (.ref c1), .val (.int (0 : Int32)), .val (.int (5 : Int32)), .val (.int (0 : Int32)), .val (.int (4 : Int32)), .val (.long (wk 4)), .second] [(.int (0 : Int32)), (.ref c1)]))
            refine OGo.st (fun _ k_ => XS.iconst X16.here hx rfl (hb hby own_d_jdk_2529_method_15_code_50) k_) ?_
            show OGo p.tables e below _ (T16.setTop (mkF m 51 #[.val (.ref c1), .val (.int (0 : Int32)), .val (.int (5 : Int32)), .val (.int (0 : Int32)), .val (.int (4 : Int32)), .val (.long (wk 4)), .second] [(.int (1 : Int32)), (.int (0 : Int32)), (.ref c1)]))
            refine OGo.st (fun _ k_ => XS.iadd X16.here hx rfl (hb hby own_d_jdk_2529_method_15_code_51) rfl k_) ?_
            show OGo p.tables e below _ (T16.setTop (mkF m 52 #[.val (.ref c1), .val (.int (0 : Int32)), .val (.int (5 : Int32)), .val (.int (0 : Int32)), .val (.int (4 : Int32)), .val (.long (wk 4)), .second] [(.int (1 : Int32)), (.ref c1)]))
            refine OGo.st (fun _ k_ => XS.aloadN X16.here hx rfl (hb hby own_d_jdk_2529_method_15_code_52) rfl rfl k_) ?_
            show OGo p.tables e below _ (T16.setTop (mkF m 53 #[.val (.ref c1), .val (.int (0 : Int32)), .val (.int (5 : Int32)), .val (.int (0 : Int32)), .val (.int (4 : Int32)), .val (.long (wk 4)), .second] [(.ref c1), (.int (1 : Int32)), (.ref c1)]))
            refine OGo.st (fun _ k_ => XS.iloadN X16.here hx rfl (hb hby own_d_jdk_2529_method_15_code_53) rfl k_) ?_
            show OGo p.tables e below _ (T16.setTop (mkF m 54 #[.val (.ref c1), .val (.int (0 : Int32)), .val (.int (5 : Int32)), .val (.int (0 : Int32)), .val (.int (4 : Int32)), .val (.long (wk 4)), .second] [(.int (0 : Int32)), (.ref c1), (.int (1 : Int32)), (.ref c1)]))
            have qz20 := own_ldJ X16 hx hZ ez16 V16 (j := (0 : Int32)) (v := (wk 0)) (by decide) rfl (g := (mkF m 54 #[.val (.ref c1), .val (.int (0 : Int32)), .val (.int (5 : Int32)), .val (.int (0 : Int32)), .val (.int (4 : Int32)), .val (.long (wk 4)), .second] [(.int (0 : Int32)), (.ref c1), (.int (1 : Int32)), (.ref c1)])) rfl rfl (hb hby own_d_jdk_2529_method_15_code_54)
            refine OGo.st qz20 ?_
            show OGo p.tables e below _ (T16.setTop (mkF m 55 #[.val (.ref c1), .val (.int (0 : Int32)), .val (.int (5 : Int32)), .val (.int (0 : Int32)), .val (.int (4 : Int32)), .val (.long (wk 4)), .second] [(.long (wk 0)), (.int (1 : Int32)), (.ref c1)]))
            obtain ⟨T21, hz21, X21, ez21, W21, V21, st21⟩ := own_stJ X16 hx hZ ez16 V16 (j := (1 : Int32)) (by decide)  (g := (mkF m 55 #[.val (.ref c1), .val (.int (0 : Int32)), .val (.int (5 : Int32)), .val (.int (0 : Int32)), .val (.int (4 : Int32)), .val (.long (wk 4)), .second] [(.long (wk 0)), (.int (1 : Int32)), (.ref c1)])) rfl rfl (hb hby own_d_jdk_2529_method_15_code_55)
            have N21 := Fr.snoc X21 N16 g_c1
            have K_22 : Keep h0 hz21 [c1] := K_17.wr W21 (Or.inl (List.mem_of_getElem? (i := 0) rfl))
            refine OGo.st st21 ?_
            show OGo p.tables e below _ (T21.setTop (mkF m 56 #[.val (.ref c1), .val (.int (0 : Int32)), .val (.int (5 : Int32)), .val (.int (0 : Int32)), .val (.int (4 : Int32)), .val (.long (wk 4)), .second] []))
            refine OGo.st (fun _ k_ => XS.goto X21.here hx rfl (pc0 := 56) (pc' := 31) rfl (hb hby own_d_jdk_2529_method_15_code_56) (by decide) (by decide) k_) ?_
            show OGo p.tables e below _ (T21.setTop (mkF m 31 #[.val (.ref c1), .val (.int (0 : Int32)), .val (.int (5 : Int32)), .val (.int (0 : Int32)), .val (.int (4 : Int32)), .val (.long (wk 4)), .second] []))
            refine OGo.st (fun _ k_ => XS.iinc X21.here hx rfl (hb hby own_d_jdk_2529_method_15_code_31) rfl (l' := #[.val (.ref c1), .val (.int (0 : Int32)), .val (.int (5 : Int32)), .val (.int (-1 : Int32)), .val (.int (4 : Int32)), .val (.long (wk 4)), .second]) rfl k_) ?_
            show OGo p.tables e below _ (T21.setTop (mkF m 34 #[.val (.ref c1), .val (.int (0 : Int32)), .val (.int (5 : Int32)), .val (.int (-1 : Int32)), .val (.int (4 : Int32)), .val (.long (wk 4)), .second] []))
            refine OGo.st (fun _ k_ => XS.iloadN X21.here hx rfl (hb hby own_d_jdk_2529_method_15_code_34) rfl k_) ?_
            show OGo p.tables e below _ (T21.setTop (mkF m 35 #[.val (.ref c1), .val (.int (0 : Int32)), .val (.int (5 : Int32)), .val (.int (-1 : Int32)), .val (.int (4 : Int32)), .val (.long (wk 4)), .second] [(.int (-1 : Int32))]))
            refine OGo.st (fun _ k_ => XS.iloadN X21.here hx rfl (hb hby own_d_jdk_2529_method_15_code_35) rfl k_) ?_
            show OGo p.tables e below _ (T21.setTop (mkF m 36 #[.val (.ref c1), .val (.int (0 : Int32)), .val (.int (5 : Int32)), .val (.int (-1 : Int32)), .val (.int (4 : Int32)), .val (.long (wk 4)), .second] [(.int (0 : Int32)), (.int (-1 : Int32))]))
            refine OGo.st (fun _ k_ => XS.icmpYes X21.here hx rfl (pc0 := 36) (pc' := 59) rfl (hb hby own_d_jdk_2529_method_15_code_36) rfl (XT.ii_lt_t (by decide)) (by decide) (by decide) k_) ?_
            show OGo p.tables e below _ (T21.setTop (mkF m 59 #[.val (.ref c1), .val (.int (0 : Int32)), .val (.int (5 : Int32)), .val (.int (-1 : Int32)), .val (.int (4 : Int32)), .val (.long (wk 4)), .second] []))
            refine OGo.st (fun _ k_ => XS.aloadN X21.here hx rfl (hb hby own_d_jdk_2529_method_15_code_59) rfl rfl k_) ?_
            show OGo p.tables e below _ (T21.setTop (mkF m 60 #[.val (.ref c1), .val (.int (0 : Int32)), .val (.int (5 : Int32)), .val (.int (-1 : Int32)), .val (.int (4 : Int32)), .val (.long (wk 4)), .second] [(.ref c1)]))
            refine OGo.st (fun _ k_ => XS.iloadN X21.here hx rfl (hb hby own_d_jdk_2529_method_15_code_60) rfl k_) ?_
            show OGo p.tables e below _ (T21.setTop (mkF m 61 #[.val (.ref c1), .val (.int (0 : Int32)), .val (.int (5 : Int32)), .val (.int (-1 : Int32)), .val (.int (4 : Int32)), .val (.long (wk 4)), .second] [(.int (-1 : Int32)), (.ref c1)]))
            refine OGo.st (fun _ k_ => XS.iconst X21.here hx rfl (hb hby own_d_jdk_2529_method_15_code_61) k_) ?_
            show OGo p.tables e below _ (T21.setTop (mkF m 62 #[.val (.ref c1), .val (.int (0 : Int32)), .val (.int (5 : Int32)), .val (.int (-1 : Int32)), .val (.int (4 : Int32)), .val (.long (wk 4)), .second] [(.int (1 : Int32)), (.int (-1 : Int32)), (.ref c1)]))
            refine OGo.st (fun _ k_ => XS.iadd X21.here hx rfl (hb hby own_d_jdk_2529_method_15_code_62) rfl k_) ?_
            show OGo p.tables e below _ (T21.setTop (mkF m 63 #[.val (.ref c1), .val (.int (0 : Int32)), .val (.int (5 : Int32)), .val (.int (-1 : Int32)), .val (.int (4 : Int32)), .val (.long (wk 4)), .second] [(.int (0 : Int32)), (.ref c1)]))
            refine OGo.st (fun _ k_ => XS.lload X21.here hx rfl (hb hby own_d_jdk_2529_method_15_code_63) rfl k_) ?_
            show OGo p.tables e below _ (T21.setTop (mkF m 65 #[.val (.ref c1), .val (.int (0 : Int32)), .val (.int (5 : Int32)), .val (.int (-1 : Int32)), .val (.int (4 : Int32)), .val (.long (wk 4)), .second] [(.long (wk 4)), (.int (0 : Int32)), (.ref c1)]))
            obtain ⟨T23, hz23, X23, ez23, W23, V23, st23⟩ := own_stJ X21 hx hZ ez21 V21 (j := (0 : Int32)) (by decide)  (g := (mkF m 65 #[.val (.ref c1), .val (.int (0 : Int32)), .val (.int (5 : Int32)), .val (.int (-1 : Int32)), .val (.int (4 : Int32)), .val (.long (wk 4)), .second] [(.long (wk 4)), (.int (0 : Int32)), (.ref c1)])) rfl rfl (hb hby own_d_jdk_2529_method_15_code_65)
            have N23 := Fr.snoc X23 N21 g_c1
            have K_24 : Keep h0 hz23 [c1] := K_22.wr W23 (Or.inl (List.mem_of_getElem? (i := 0) rfl))
            refine OGo.st st23 ?_
            show OGo p.tables e below _ (T23.setTop (mkF m 66 #[.val (.ref c1), .val (.int (0 : Int32)), .val (.int (5 : Int32)), .val (.int (-1 : Int32)), .val (.int (4 : Int32)), .val (.long (wk 4)), .second] []))
            refine OGo.st (fun _ k_ => XS.goto X23.here hx rfl (pc0 := 66) (pc' := 3) rfl (hb hby own_d_jdk_2529_method_15_code_66) (by decide) (by decide) k_) ?_
            have Af_25 : Arf Z hz23 c1 k1 .long 5 (own_L (own_ins wk 4 0)) := V23.congr (fun i hi => match i, hi with | 0, _ => rfl | 1, _ => rfl | 2, _ => rfl | 3, _ => rfl | 4, _ => rfl | (n_ + 5), q_ => absurd q_ (by show ¬ n_ + 5 < 5; omega))
            exact J4 T23 _ hz23 (-1 : Int32) (wk 4) (own_ins wk 4 0) X23 ez23 N23 K_24 Af_25 (own_step (k := 3) (p := 0) hI (by decide) (by decide) (fun _ => hc44_19) (fun q => absurd q (by decide)))
          · refine OGo.st (fun _ k_ => XT.lcmp X16.here hx rfl (hb hby own_d_jdk_2529_method_15_code_44) rfl k_) ?_
            show OGo p.tables e below _ (T16.setTop (mkF m 45 #[.val (.ref c1), .val (.int (0 : Int32)), .val (.int (5 : Int32)), .val (.int (0 : Int32)), .val (.int (4 : Int32)), .val (.long (wk 4)), .second] [(.int (XT.cmpL (wk 4) (wk 0)))]))
            refine OGo.st (fun _ k_ => XS.ifYes X16.here hx rfl (pc0 := 45) (pc' := 59) rfl (hb hby own_d_jdk_2529_method_15_code_45) rfl (XT.ll_ge_t hc44_19) (by decide) (by decide) k_) ?_
            show OGo p.tables e below _ (T16.setTop (mkF m 59 #[.val (.ref c1), .val (.int (0 : Int32)), .val (.int (5 : Int32)), .val (.int (0 : Int32)), .val (.int (4 : Int32)), .val (.long (wk 4)), .second] []))
            refine OGo.st (fun _ k_ => XS.aloadN X16.here hx rfl (hb hby own_d_jdk_2529_method_15_code_59) rfl rfl k_) ?_
            show OGo p.tables e below _ (T16.setTop (mkF m 60 #[.val (.ref c1), .val (.int (0 : Int32)), .val (.int (5 : Int32)), .val (.int (0 : Int32)), .val (.int (4 : Int32)), .val (.long (wk 4)), .second] [(.ref c1)]))
            refine OGo.st (fun _ k_ => XS.iloadN X16.here hx rfl (hb hby own_d_jdk_2529_method_15_code_60) rfl k_) ?_
            show OGo p.tables e below _ (T16.setTop (mkF m 61 #[.val (.ref c1), .val (.int (0 : Int32)), .val (.int (5 : Int32)), .val (.int (0 : Int32)), .val (.int (4 : Int32)), .val (.long (wk 4)), .second] [(.int (0 : Int32)), (.ref c1)]))
            refine OGo.st (fun _ k_ => XS.iconst X16.here hx rfl (hb hby own_d_jdk_2529_method_15_code_61) k_) ?_
            show OGo p.tables e below _ (T16.setTop (mkF m 62 #[.val (.ref c1), .val (.int (0 : Int32)), .val (.int (5 : Int32)), .val (.int (0 : Int32)), .val (.int (4 : Int32)), .val (.long (wk 4)), .second] [(.int (1 : Int32)), (.int (0 : Int32)), (.ref c1)]))
            refine OGo.st (fun _ k_ => XS.iadd X16.here hx rfl (hb hby own_d_jdk_2529_method_15_code_62) rfl k_) ?_
            show OGo p.tables e below _ (T16.setTop (mkF m 63 #[.val (.ref c1), .val (.int (0 : Int32)), .val (.int (5 : Int32)), .val (.int (0 : Int32)), .val (.int (4 : Int32)), .val (.long (wk 4)), .second] [(.int (1 : Int32)), (.ref c1)]))
            refine OGo.st (fun _ k_ => XS.lload X16.here hx rfl (hb hby own_d_jdk_2529_method_15_code_63) rfl k_) ?_
            show OGo p.tables e below _ (T16.setTop (mkF m 65 #[.val (.ref c1), .val (.int (0 : Int32)), .val (.int (5 : Int32)), .val (.int (0 : Int32)), .val (.int (4 : Int32)), .val (.long (wk 4)), .second] [(.long (wk 4)), (.int (1 : Int32)), (.ref c1)]))
            obtain ⟨T26, hz26, X26, ez26, W26, V26, st26⟩ := own_stJ X16 hx hZ ez16 V16 (j := (1 : Int32)) (by decide)  (g := (mkF m 65 #[.val (.ref c1), .val (.int (0 : Int32)), .val (.int (5 : Int32)), .val (.int (0 : Int32)), .val (.int (4 : Int32)), .val (.long (wk 4)), .second] [(.long (wk 4)), (.int (1 : Int32)), (.ref c1)])) rfl rfl (hb hby own_d_jdk_2529_method_15_code_65)
            have N26 := Fr.snoc X26 N16 g_c1
            have K_27 : Keep h0 hz26 [c1] := K_17.wr W26 (Or.inl (List.mem_of_getElem? (i := 0) rfl))
            refine OGo.st st26 ?_
            show OGo p.tables e below _ (T26.setTop (mkF m 66 #[.val (.ref c1), .val (.int (0 : Int32)), .val (.int (5 : Int32)), .val (.int (0 : Int32)), .val (.int (4 : Int32)), .val (.long (wk 4)), .second] []))
            refine OGo.st (fun _ k_ => XS.goto X26.here hx rfl (pc0 := 66) (pc' := 3) rfl (hb hby own_d_jdk_2529_method_15_code_66) (by decide) (by decide) k_) ?_
            have Af_28 : Arf Z hz26 c1 k1 .long 5 (own_L (own_ins wk 4 1)) := V26.congr (fun i hi => match i, hi with | 0, _ => rfl | 1, _ => rfl | 2, _ => rfl | 3, _ => rfl | 4, _ => rfl | (n_ + 5), q_ => absurd q_ (by show ¬ n_ + 5 < 5; omega))
            exact J4 T26 _ hz26 (0 : Int32) (wk 4) (own_ins wk 4 1) X26 ez26 N26 K_27 Af_28 (own_step (k := 3) (p := 1) hI (by decide) (by decide) (fun _ => hc44_14) (fun _ => hc44_19))
        · refine OGo.st (fun _ k_ => XT.lcmp X11.here hx rfl (hb hby own_d_jdk_2529_method_15_code_44) rfl k_) ?_
          show OGo p.tables e below _ (T11.setTop (mkF m 45 #[.val (.ref c1), .val (.int (0 : Int32)), .val (.int (5 : Int32)), .val (.int (1 : Int32)), .val (.int (4 : Int32)), .val (.long (wk 4)), .second] [(.int (XT.cmpL (wk 4) (wk 1)))]))
          refine OGo.st (fun _ k_ => XS.ifYes X11.here hx rfl (pc0 := 45) (pc' := 59) rfl (hb hby own_d_jdk_2529_method_15_code_45) rfl (XT.ll_ge_t hc44_14) (by decide) (by decide) k_) ?_
          show OGo p.tables e below _ (T11.setTop (mkF m 59 #[.val (.ref c1), .val (.int (0 : Int32)), .val (.int (5 : Int32)), .val (.int (1 : Int32)), .val (.int (4 : Int32)), .val (.long (wk 4)), .second] []))
          refine OGo.st (fun _ k_ => XS.aloadN X11.here hx rfl (hb hby own_d_jdk_2529_method_15_code_59) rfl rfl k_) ?_
          show OGo p.tables e below _ (T11.setTop (mkF m 60 #[.val (.ref c1), .val (.int (0 : Int32)), .val (.int (5 : Int32)), .val (.int (1 : Int32)), .val (.int (4 : Int32)), .val (.long (wk 4)), .second] [(.ref c1)]))
          refine OGo.st (fun _ k_ => XS.iloadN X11.here hx rfl (hb hby own_d_jdk_2529_method_15_code_60) rfl k_) ?_
          show OGo p.tables e below _ (T11.setTop (mkF m 61 #[.val (.ref c1), .val (.int (0 : Int32)), .val (.int (5 : Int32)), .val (.int (1 : Int32)), .val (.int (4 : Int32)), .val (.long (wk 4)), .second] [(.int (1 : Int32)), (.ref c1)]))
          refine OGo.st (fun _ k_ => XS.iconst X11.here hx rfl (hb hby own_d_jdk_2529_method_15_code_61) k_) ?_
          show OGo p.tables e below _ (T11.setTop (mkF m 62 #[.val (.ref c1), .val (.int (0 : Int32)), .val (.int (5 : Int32)), .val (.int (1 : Int32)), .val (.int (4 : Int32)), .val (.long (wk 4)), .second] [(.int (1 : Int32)), (.int (1 : Int32)), (.ref c1)]))
          refine OGo.st (fun _ k_ => XS.iadd X11.here hx rfl (hb hby own_d_jdk_2529_method_15_code_62) rfl k_) ?_
          show OGo p.tables e below _ (T11.setTop (mkF m 63 #[.val (.ref c1), .val (.int (0 : Int32)), .val (.int (5 : Int32)), .val (.int (1 : Int32)), .val (.int (4 : Int32)), .val (.long (wk 4)), .second] [(.int (2 : Int32)), (.ref c1)]))
          refine OGo.st (fun _ k_ => XS.lload X11.here hx rfl (hb hby own_d_jdk_2529_method_15_code_63) rfl k_) ?_
          show OGo p.tables e below _ (T11.setTop (mkF m 65 #[.val (.ref c1), .val (.int (0 : Int32)), .val (.int (5 : Int32)), .val (.int (1 : Int32)), .val (.int (4 : Int32)), .val (.long (wk 4)), .second] [(.long (wk 4)), (.int (2 : Int32)), (.ref c1)]))
          obtain ⟨T29, hz29, X29, ez29, W29, V29, st29⟩ := own_stJ X11 hx hZ ez11 V11 (j := (2 : Int32)) (by decide)  (g := (mkF m 65 #[.val (.ref c1), .val (.int (0 : Int32)), .val (.int (5 : Int32)), .val (.int (1 : Int32)), .val (.int (4 : Int32)), .val (.long (wk 4)), .second] [(.long (wk 4)), (.int (2 : Int32)), (.ref c1)])) rfl rfl (hb hby own_d_jdk_2529_method_15_code_65)
          have N29 := Fr.snoc X29 N11 g_c1
          have K_30 : Keep h0 hz29 [c1] := K_12.wr W29 (Or.inl (List.mem_of_getElem? (i := 0) rfl))
          refine OGo.st st29 ?_
          show OGo p.tables e below _ (T29.setTop (mkF m 66 #[.val (.ref c1), .val (.int (0 : Int32)), .val (.int (5 : Int32)), .val (.int (1 : Int32)), .val (.int (4 : Int32)), .val (.long (wk 4)), .second] []))
          refine OGo.st (fun _ k_ => XS.goto X29.here hx rfl (pc0 := 66) (pc' := 3) rfl (hb hby own_d_jdk_2529_method_15_code_66) (by decide) (by decide) k_) ?_
          have Af_31 : Arf Z hz29 c1 k1 .long 5 (own_L (own_ins wk 4 2)) := V29.congr (fun i hi => match i, hi with | 0, _ => rfl | 1, _ => rfl | 2, _ => rfl | 3, _ => rfl | 4, _ => rfl | (n_ + 5), q_ => absurd q_ (by show ¬ n_ + 5 < 5; omega))
          exact J4 T29 _ hz29 (1 : Int32) (wk 4) (own_ins wk 4 2) X29 ez29 N29 K_30 Af_31 (own_step (k := 3) (p := 2) hI (by decide) (by decide) (fun _ => hc44) (fun _ => hc44_14))
      · refine OGo.st (fun _ k_ => XT.lcmp X7.here hx rfl (hb hby own_d_jdk_2529_method_15_code_44) rfl k_) ?_
        show OGo p.tables e below _ (T7.setTop (mkF m 45 #[.val (.ref c1), .val (.int (0 : Int32)), .val (.int (5 : Int32)), .val (.int (2 : Int32)), .val (.int (4 : Int32)), .val (.long (wk 4)), .second] [(.int (XT.cmpL (wk 4) (wk 2)))]))
        refine OGo.st (fun _ k_ => XS.ifYes X7.here hx rfl (pc0 := 45) (pc' := 59) rfl (hb hby own_d_jdk_2529_method_15_code_45) rfl (XT.ll_ge_t hc44) (by decide) (by decide) k_) ?_
        show OGo p.tables e below _ (T7.setTop (mkF m 59 #[.val (.ref c1), .val (.int (0 : Int32)), .val (.int (5 : Int32)), .val (.int (2 : Int32)), .val (.int (4 : Int32)), .val (.long (wk 4)), .second] []))
        refine OGo.st (fun _ k_ => XS.aloadN X7.here hx rfl (hb hby own_d_jdk_2529_method_15_code_59) rfl rfl k_) ?_
        show OGo p.tables e below _ (T7.setTop (mkF m 60 #[.val (.ref c1), .val (.int (0 : Int32)), .val (.int (5 : Int32)), .val (.int (2 : Int32)), .val (.int (4 : Int32)), .val (.long (wk 4)), .second] [(.ref c1)]))
        refine OGo.st (fun _ k_ => XS.iloadN X7.here hx rfl (hb hby own_d_jdk_2529_method_15_code_60) rfl k_) ?_
        show OGo p.tables e below _ (T7.setTop (mkF m 61 #[.val (.ref c1), .val (.int (0 : Int32)), .val (.int (5 : Int32)), .val (.int (2 : Int32)), .val (.int (4 : Int32)), .val (.long (wk 4)), .second] [(.int (2 : Int32)), (.ref c1)]))
        refine OGo.st (fun _ k_ => XS.iconst X7.here hx rfl (hb hby own_d_jdk_2529_method_15_code_61) k_) ?_
        show OGo p.tables e below _ (T7.setTop (mkF m 62 #[.val (.ref c1), .val (.int (0 : Int32)), .val (.int (5 : Int32)), .val (.int (2 : Int32)), .val (.int (4 : Int32)), .val (.long (wk 4)), .second] [(.int (1 : Int32)), (.int (2 : Int32)), (.ref c1)]))
        refine OGo.st (fun _ k_ => XS.iadd X7.here hx rfl (hb hby own_d_jdk_2529_method_15_code_62) rfl k_) ?_
        show OGo p.tables e below _ (T7.setTop (mkF m 63 #[.val (.ref c1), .val (.int (0 : Int32)), .val (.int (5 : Int32)), .val (.int (2 : Int32)), .val (.int (4 : Int32)), .val (.long (wk 4)), .second] [(.int (3 : Int32)), (.ref c1)]))
        refine OGo.st (fun _ k_ => XS.lload X7.here hx rfl (hb hby own_d_jdk_2529_method_15_code_63) rfl k_) ?_
        show OGo p.tables e below _ (T7.setTop (mkF m 65 #[.val (.ref c1), .val (.int (0 : Int32)), .val (.int (5 : Int32)), .val (.int (2 : Int32)), .val (.int (4 : Int32)), .val (.long (wk 4)), .second] [(.long (wk 4)), (.int (3 : Int32)), (.ref c1)]))
        obtain ⟨T32, hz32, X32, ez32, W32, V32, st32⟩ := own_stJ X7 hx hZ ez7 V7 (j := (3 : Int32)) (by decide)  (g := (mkF m 65 #[.val (.ref c1), .val (.int (0 : Int32)), .val (.int (5 : Int32)), .val (.int (2 : Int32)), .val (.int (4 : Int32)), .val (.long (wk 4)), .second] [(.long (wk 4)), (.int (3 : Int32)), (.ref c1)])) rfl rfl (hb hby own_d_jdk_2529_method_15_code_65)
        have N32 := Fr.snoc X32 N7 g_c1
        have K_33 : Keep h0 hz32 [c1] := K_8.wr W32 (Or.inl (List.mem_of_getElem? (i := 0) rfl))
        refine OGo.st st32 ?_
        show OGo p.tables e below _ (T32.setTop (mkF m 66 #[.val (.ref c1), .val (.int (0 : Int32)), .val (.int (5 : Int32)), .val (.int (2 : Int32)), .val (.int (4 : Int32)), .val (.long (wk 4)), .second] []))
        refine OGo.st (fun _ k_ => XS.goto X32.here hx rfl (pc0 := 66) (pc' := 3) rfl (hb hby own_d_jdk_2529_method_15_code_66) (by decide) (by decide) k_) ?_
        have Af_34 : Arf Z hz32 c1 k1 .long 5 (own_L (own_ins wk 4 3)) := V32.congr (fun i hi => match i, hi with | 0, _ => rfl | 1, _ => rfl | 2, _ => rfl | 3, _ => rfl | 4, _ => rfl | (n_ + 5), q_ => absurd q_ (by show ¬ n_ + 5 < 5; omega))
        exact J4 T32 _ hz32 (2 : Int32) (wk 4) (own_ins wk 4 3) X32 ez32 N32 K_33 Af_34 (own_step (k := 3) (p := 3) hI (by decide) (by decide) (fun _ => hc27) (fun _ => hc44))
    · refine OGo.st (fun _ k_ => XT.lcmp Xj2.here hx rfl (hb hby own_d_jdk_2529_method_15_code_27) rfl k_) ?_
      show OGo p.tables e below _ (Tj2.setTop (mkF m 28 #[.val (.ref c1), .val (.int (0 : Int32)), .val (.int (5 : Int32)), .val (.int (4 : Int32)), .val (.int (4 : Int32)), .val (.long (wk 4)), .second] [(.int (XT.cmpL (wk 4) (wk 3)))]))
      refine OGo.st (fun _ k_ => XS.ifYes Xj2.here hx rfl (pc0 := 28) (pc' := 66) rfl (hb hby own_d_jdk_2529_method_15_code_28) rfl (XT.ll_ge_t hc27) (by decide) (by decide) k_) ?_
      show OGo p.tables e below _ (Tj2.setTop (mkF m 66 #[.val (.ref c1), .val (.int (0 : Int32)), .val (.int (5 : Int32)), .val (.int (4 : Int32)), .val (.int (4 : Int32)), .val (.long (wk 4)), .second] []))
      refine OGo.st (fun _ k_ => XS.goto Xj2.here hx rfl (pc0 := 66) (pc' := 3) rfl (hb hby own_d_jdk_2529_method_15_code_66) (by decide) (by decide) k_) ?_
      have Af_35 : Arf Z hj2 c1 k1 .long 5 (own_L (own_ins wk 4 4)) := f2_0.congr (fun i hi => match i, hi with | 0, _ => rfl | 1, _ => rfl | 2, _ => rfl | 3, _ => rfl | 4, _ => rfl | (n_ + 5), q_ => absurd q_ (by show ¬ n_ + 5 < 5; omega))
      exact J4 Tj2 _ hj2 (4 : Int32) (wk 4) (own_ins wk 4 4) Xj2 ej2 Nj2 Kj2 Af_35 (own_step (k := 3) (p := 4) hI (by decide) (by decide) (fun q => absurd q (by decide)) (fun _ => hc27))
  have J2 : ∀ (Tj36 : State) (lj36 : List Loc) (hj36 : Heap) (x3 : Int32) (x5 : Int64) (wk : Nat → Int64), Stand p l e ({ frames := 0, cells := 0, slots := 0, locals := 0 } : Room) s m #[(.ref c1), (.int (0 : Int32)), (.int (5 : Int32))] below meth c Tj36 lj36 0 0 → Tj36.heap = hj36 → Fr n0 lj36 → Keep h0 hj36 [c1] → Arf Z hj36 c1 k1 .long 5 (own_L wk) → own_I 2 w wk → OGo p.tables e below (OPost s (own_Q_rm5 Z c1 k1 w h0 n0) 0 0) (Tj36.setTop (mkF m 3 #[.val (.ref c1), .val (.int (0 : Int32)), .val (.int (5 : Int32)), .val (.int x3), .val (.int (2 : Int32)), .val (.long x5), .second] [])) := by
    intro Tj36 lj36 hj36 x3 x5 wk Xj36 ej36 Nj36 Kj36 f36_0 hI
    show OGo p.tables e below _ (Tj36.setTop (mkF m 3 #[.val (.ref c1), .val (.int (0 : Int32)), .val (.int (5 : Int32)), .val (.int x3), .val (.int (2 : Int32)), .val (.long x5), .second] []))
    refine OGo.st (fun _ k_ => XS.iinc Xj36.here hx rfl (hb hby own_d_jdk_2529_method_15_code_3) rfl (l' := #[.val (.ref c1), .val (.int (0 : Int32)), .val (.int (5 : Int32)), .val (.int x3), .val (.int (3 : Int32)), .val (.long x5), .second]) rfl k_) ?_
    show OGo p.tables e below _ (Tj36.setTop (mkF m 6 #[.val (.ref c1), .val (.int (0 : Int32)), .val (.int (5 : Int32)), .val (.int x3), .val (.int (3 : Int32)), .val (.long x5), .second] []))
    refine OGo.st (fun _ k_ => XS.iload Xj36.here hx rfl (hb hby own_d_jdk_2529_method_15_code_6) rfl k_) ?_
    show OGo p.tables e below _ (Tj36.setTop (mkF m 8 #[.val (.ref c1), .val (.int (0 : Int32)), .val (.int (5 : Int32)), .val (.int x3), .val (.int (3 : Int32)), .val (.long x5), .second] [(.int (3 : Int32))]))
    refine OGo.st (fun _ k_ => XS.iloadN Xj36.here hx rfl (hb hby own_d_jdk_2529_method_15_code_8) rfl k_) ?_
    show OGo p.tables e below _ (Tj36.setTop (mkF m 9 #[.val (.ref c1), .val (.int (0 : Int32)), .val (.int (5 : Int32)), .val (.int x3), .val (.int (3 : Int32)), .val (.long x5), .second] [(.int (5 : Int32)), (.int (3 : Int32))]))
    refine OGo.st (fun _ k_ => XS.icmpNo Xj36.here hx rfl (hb hby own_d_jdk_2529_method_15_code_9) rfl (XT.ii_ge_f (by decide)) k_) ?_
    show OGo p.tables e below _ (Tj36.setTop (mkF m 12 #[.val (.ref c1), .val (.int (0 : Int32)), .val (.int (5 : Int32)), .val (.int x3), .val (.int (3 : Int32)), .val (.long x5), .second] []))
    refine OGo.st (fun _ k_ => XS.aloadN Xj36.here hx rfl (hb hby own_d_jdk_2529_method_15_code_12) rfl rfl k_) ?_
    show OGo p.tables e below _ (Tj36.setTop (mkF m 13 #[.val (.ref c1), .val (.int (0 : Int32)), .val (.int (5 : Int32)), .val (.int x3), .val (.int (3 : Int32)), .val (.long x5), .second] [(.ref c1)]))
    refine OGo.st (fun _ k_ => XS.iload Xj36.here hx rfl (hb hby own_d_jdk_2529_method_15_code_13) rfl k_) ?_
    show OGo p.tables e below _ (Tj36.setTop (mkF m 15 #[.val (.ref c1), .val (.int (0 : Int32)), .val (.int (5 : Int32)), .val (.int x3), .val (.int (3 : Int32)), .val (.long x5), .second] [(.int (3 : Int32)), (.ref c1)]))
    refine OGo.st (fun _ k_ => XS.dup Xj36.here hx rfl (hb hby own_d_jdk_2529_method_15_code_15) rfl rfl k_) ?_
    show OGo p.tables e below _ (Tj36.setTop (mkF m 16 #[.val (.ref c1), .val (.int (0 : Int32)), .val (.int (5 : Int32)), .val (.int x3), .val (.int (3 : Int32)), .val (.long x5), .second] [(.int (3 : Int32)), (.int (3 : Int32)), (.ref c1)]))
    refine OGo.st (fun _ k_ => XS.istoreN Xj36.here hx rfl (hb hby own_d_jdk_2529_method_15_code_16) rfl (l' := #[.val (.ref c1), .val (.int (0 : Int32)), .val (.int (5 : Int32)), .val (.int (3 : Int32)), .val (.int (3 : Int32)), .val (.long x5), .second]) rfl k_) ?_
    show OGo p.tables e below _ (Tj36.setTop (mkF m 17 #[.val (.ref c1), .val (.int (0 : Int32)), .val (.int (5 : Int32)), .val (.int (3 : Int32)), .val (.int (3 : Int32)), .val (.long x5), .second] [(.int (3 : Int32)), (.ref c1)]))
    have qz37 := own_ldJ Xj36 hx hZ ej36 f36_0 (j := (3 : Int32)) (v := (wk 3)) (by decide) rfl (g := (mkF m 17 #[.val (.ref c1), .val (.int (0 : Int32)), .val (.int (5 : Int32)), .val (.int (3 : Int32)), .val (.int (3 : Int32)), .val (.long x5), .second] [(.int (3 : Int32)), (.ref c1)])) rfl rfl (hb hby own_d_jdk_2529_method_15_code_17)
    refine OGo.st qz37 ?_
    show OGo p.tables e below _ (Tj36.setTop (mkF m 18 #[.val (.ref c1), .val (.int (0 : Int32)), .val (.int (5 : Int32)), .val (.int (3 : Int32)), .val (.int (3 : Int32)), .val (.long x5), .second] [(.long (wk 3))]))
    refine OGo.st (fun _ k_ => XS.lstore Xj36.here hx rfl (hb hby own_d_jdk_2529_method_15_code_18) rfl (l' := #[.val (.ref c1), .val (.int (0 : Int32)), .val (.int (5 : Int32)), .val (.int (3 : Int32)), .val (.int (3 : Int32)), .val (.long (wk 3)), .second]) rfl k_) ?_
    show OGo p.tables e below _ (Tj36.setTop (mkF m 20 #[.val (.ref c1), .val (.int (0 : Int32)), .val (.int (5 : Int32)), .val (.int (3 : Int32)), .val (.int (3 : Int32)), .val (.long (wk 3)), .second] []))
    refine OGo.st (fun _ k_ => XS.lload Xj36.here hx rfl (hb hby own_d_jdk_2529_method_15_code_20) rfl k_) ?_
    show OGo p.tables e below _ (Tj36.setTop (mkF m 22 #[.val (.ref c1), .val (.int (0 : Int32)), .val (.int (5 : Int32)), .val (.int (3 : Int32)), .val (.int (3 : Int32)), .val (.long (wk 3)), .second] [(.long (wk 3))]))
    refine OGo.st (fun _ k_ => XS.aloadN Xj36.here hx rfl (hb hby own_d_jdk_2529_method_15_code_22) rfl rfl k_) ?_
    show OGo p.tables e below _ (Tj36.setTop (mkF m 23 #[.val (.ref c1), .val (.int (0 : Int32)), .val (.int (5 : Int32)), .val (.int (3 : Int32)), .val (.int (3 : Int32)), .val (.long (wk 3)), .second] [(.ref c1), (.long (wk 3))]))
    refine OGo.st (fun _ k_ => XS.iloadN Xj36.here hx rfl (hb hby own_d_jdk_2529_method_15_code_23) rfl k_) ?_
    show OGo p.tables e below _ (Tj36.setTop (mkF m 24 #[.val (.ref c1), .val (.int (0 : Int32)), .val (.int (5 : Int32)), .val (.int (3 : Int32)), .val (.int (3 : Int32)), .val (.long (wk 3)), .second] [(.int (3 : Int32)), (.ref c1), (.long (wk 3))]))
    refine OGo.st (fun _ k_ => XS.iconst Xj36.here hx rfl (hb hby own_d_jdk_2529_method_15_code_24) k_) ?_
    show OGo p.tables e below _ (Tj36.setTop (mkF m 25 #[.val (.ref c1), .val (.int (0 : Int32)), .val (.int (5 : Int32)), .val (.int (3 : Int32)), .val (.int (3 : Int32)), .val (.long (wk 3)), .second] [(.int (1 : Int32)), (.int (3 : Int32)), (.ref c1), (.long (wk 3))]))
    refine OGo.st (fun _ k_ => XS.isub Xj36.here hx rfl (hb hby own_d_jdk_2529_method_15_code_25) rfl k_) ?_
    show OGo p.tables e below _ (Tj36.setTop (mkF m 26 #[.val (.ref c1), .val (.int (0 : Int32)), .val (.int (5 : Int32)), .val (.int (3 : Int32)), .val (.int (3 : Int32)), .val (.long (wk 3)), .second] [(.int (2 : Int32)), (.ref c1), (.long (wk 3))]))
    have qz38 := own_ldJ Xj36 hx hZ ej36 f36_0 (j := (2 : Int32)) (v := (wk 2)) (by decide) rfl (g := (mkF m 26 #[.val (.ref c1), .val (.int (0 : Int32)), .val (.int (5 : Int32)), .val (.int (3 : Int32)), .val (.int (3 : Int32)), .val (.long (wk 3)), .second] [(.int (2 : Int32)), (.ref c1), (.long (wk 3))])) rfl rfl (hb hby own_d_jdk_2529_method_15_code_26)
    refine OGo.st qz38 ?_
    show OGo p.tables e below _ (Tj36.setTop (mkF m 27 #[.val (.ref c1), .val (.int (0 : Int32)), .val (.int (5 : Int32)), .val (.int (3 : Int32)), .val (.int (3 : Int32)), .val (.long (wk 3)), .second] [(.long (wk 2)), (.long (wk 3))]))
    by_cases hc27 : (wk 3) < (wk 2)
    · refine OGo.st (fun _ k_ => XT.lcmp Xj36.here hx rfl (hb hby own_d_jdk_2529_method_15_code_27) rfl k_) ?_
      show OGo p.tables e below _ (Tj36.setTop (mkF m 28 #[.val (.ref c1), .val (.int (0 : Int32)), .val (.int (5 : Int32)), .val (.int (3 : Int32)), .val (.int (3 : Int32)), .val (.long (wk 3)), .second] [(.int (XT.cmpL (wk 3) (wk 2)))]))
      refine OGo.st (fun _ k_ => XS.ifNo Xj36.here hx rfl (hb hby own_d_jdk_2529_method_15_code_28) rfl (XT.ll_ge_f hc27) k_) ?_
      show OGo p.tables e below _ (Tj36.setTop (mkF m 31 #[.val (.ref c1), .val (.int (0 : Int32)), .val (.int (5 : Int32)), .val (.int (3 : Int32)), .val (.int (3 : Int32)), .val (.long (wk 3)), .second] []))
      refine OGo.st (fun _ k_ => XS.iinc Xj36.here hx rfl (hb hby own_d_jdk_2529_method_15_code_31) rfl (l' := #[.val (.ref c1), .val (.int (0 : Int32)), .val (.int (5 : Int32)), .val (.int (2 : Int32)), .val (.int (3 : Int32)), .val (.long (wk 3)), .second]) rfl k_) ?_
      show OGo p.tables e below _ (Tj36.setTop (mkF m 34 #[.val (.ref c1), .val (.int (0 : Int32)), .val (.int (5 : Int32)), .val (.int (2 : Int32)), .val (.int (3 : Int32)), .val (.long (wk 3)), .second] []))
      refine OGo.st (fun _ k_ => XS.iloadN Xj36.here hx rfl (hb hby own_d_jdk_2529_method_15_code_34) rfl k_) ?_
      show OGo p.tables e below _ (Tj36.setTop (mkF m 35 #[.val (.ref c1), .val (.int (0 : Int32)), .val (.int (5 : Int32)), .val (.int (2 : Int32)), .val (.int (3 : Int32)), .val (.long (wk 3)), .second] [(.int (2 : Int32))]))
      refine OGo.st (fun _ k_ => XS.iloadN Xj36.here hx rfl (hb hby own_d_jdk_2529_method_15_code_35) rfl k_) ?_
      show OGo p.tables e below _ (Tj36.setTop (mkF m 36 #[.val (.ref c1), .val (.int (0 : Int32)), .val (.int (5 : Int32)), .val (.int (2 : Int32)), .val (.int (3 : Int32)), .val (.long (wk 3)), .second] [(.int (0 : Int32)), (.int (2 : Int32))]))
      refine OGo.st (fun _ k_ => XS.icmpNo Xj36.here hx rfl (hb hby own_d_jdk_2529_method_15_code_36) rfl (XT.ii_lt_f (by decide)) k_) ?_
      show OGo p.tables e below _ (Tj36.setTop (mkF m 39 #[.val (.ref c1), .val (.int (0 : Int32)), .val (.int (5 : Int32)), .val (.int (2 : Int32)), .val (.int (3 : Int32)), .val (.long (wk 3)), .second] []))
      refine OGo.st (fun _ k_ => XS.lload Xj36.here hx rfl (hb hby own_d_jdk_2529_method_15_code_39) rfl k_) ?_
      show OGo p.tables e below _ (Tj36.setTop (mkF m 41 #[.val (.ref c1), .val (.int (0 : Int32)), .val (.int (5 : Int32)), .val (.int (2 : Int32)), .val (.int (3 : Int32)), .val (.long (wk 3)), .second] [(.long (wk 3))]))
      refine OGo.st (fun _ k_ => XS.aloadN Xj36.here hx rfl (hb hby own_d_jdk_2529_method_15_code_41) rfl rfl k_) ?_
      show OGo p.tables e below _ (Tj36.setTop (mkF m 42 #[.val (.ref c1), .val (.int (0 : Int32)), .val (.int (5 : Int32)), .val (.int (2 : Int32)), .val (.int (3 : Int32)), .val (.long (wk 3)), .second] [(.ref c1), (.long (wk 3))]))
      refine OGo.st (fun _ k_ => XS.iloadN Xj36.here hx rfl (hb hby own_d_jdk_2529_method_15_code_42) rfl k_) ?_
      show OGo p.tables e below _ (Tj36.setTop (mkF m 43 #[.val (.ref c1), .val (.int (0 : Int32)), .val (.int (5 : Int32)), .val (.int (2 : Int32)), .val (.int (3 : Int32)), .val (.long (wk 3)), .second] [(.int (2 : Int32)), (.ref c1), (.long (wk 3))]))
      have qz39 := own_ldJ Xj36 hx hZ ej36 f36_0 (j := (2 : Int32)) (v := (wk 2)) (by decide) rfl (g := (mkF m 43 #[.val (.ref c1), .val (.int (0 : Int32)), .val (.int (5 : Int32)), .val (.int (2 : Int32)), .val (.int (3 : Int32)), .val (.long (wk 3)), .second] [(.int (2 : Int32)), (.ref c1), (.long (wk 3))])) rfl rfl (hb hby own_d_jdk_2529_method_15_code_43)
      refine OGo.st qz39 ?_
      show OGo p.tables e below _ (Tj36.setTop (mkF m 44 #[.val (.ref c1), .val (.int (0 : Int32)), .val (.int (5 : Int32)), .val (.int (2 : Int32)), .val (.int (3 : Int32)), .val (.long (wk 3)), .second] [(.long (wk 2)), (.long (wk 3))]))
      refine OGo.st (fun _ k_ => XT.lcmp Xj36.here hx rfl (hb hby own_d_jdk_2529_method_15_code_44) rfl k_) ?_
      show OGo p.tables e below _ (Tj36.setTop (mkF m 45 #[.val (.ref c1), .val (.int (0 : Int32)), .val (.int (5 : Int32)), .val (.int (2 : Int32)), .val (.int (3 : Int32)), .val (.long (wk 3)), .second] [(.int (XT.cmpL (wk 3) (wk 2)))]))
      refine OGo.st (fun _ k_ => XS.ifNo Xj36.here hx rfl (hb hby own_d_jdk_2529_method_15_code_45) rfl (XT.ll_ge_f hc27) k_) ?_
      show OGo p.tables e below _ (Tj36.setTop (mkF m 48 #[.val (.ref c1), .val (.int (0 : Int32)), .val (.int (5 : Int32)), .val (.int (2 : Int32)), .val (.int (3 : Int32)), .val (.long (wk 3)), .second] []))
      refine OGo.st (fun _ k_ => XS.aloadN Xj36.here hx rfl (hb hby own_d_jdk_2529_method_15_code_48) rfl rfl k_) ?_
      show OGo p.tables e below _ (Tj36.setTop (mkF m 49 #[.val (.ref c1), .val (.int (0 : Int32)), .val (.int (5 : Int32)), .val (.int (2 : Int32)), .val (.int (3 : Int32)), .val (.long (wk 3)), .second] [(.ref c1)]))
      refine OGo.st (fun _ k_ => XS.iloadN Xj36.here hx rfl (hb hby own_d_jdk_2529_method_15_code_49) rfl k_) ?_
      show OGo p.tables e below _ (Tj36.setTop (mkF m 50 #[.val (.ref c1), .val (.int (0 : Int32)), .val (.int (5 : Int32)), .val (.int (2 : Int32)), .val (.int (3 : Int32)), .val (.long (wk 3)), .second] [(.int (2 : Int32)), (.ref c1)]))
      refine OGo.st (fun _ k_ => XS.iconst Xj36.here hx rfl (hb hby own_d_jdk_2529_method_15_code_50) k_) ?_
      show OGo p.tables e below _ (Tj36.setTop (mkF m 51 #[.val (.ref c1), .val (.int (0 : Int32)), .val (.int (5 : Int32)), .val (.int (2 : Int32)), .val (.int (3 : Int32)), .val (.long (wk 3)), .second] [(.int (1 : Int32)), (.int (2 : Int32)), (.ref c1)]))
      refine OGo.st (fun _ k_ => XS.iadd Xj36.here hx rfl (hb hby own_d_jdk_2529_method_15_code_51) rfl k_) ?_
      show OGo p.tables e below _ (Tj36.setTop (mkF m 52 #[.val (.ref c1), .val (.int (0 : Int32)), .val (.int (5 : Int32)), .val (.int (2 : Int32)), .val (.int (3 : Int32)), .val (.long (wk 3)), .second] [(.int (3 : Int32)), (.ref c1)]))
      refine OGo.st (fun _ k_ => XS.aloadN Xj36.here hx rfl (hb hby own_d_jdk_2529_method_15_code_52) rfl rfl k_) ?_
      show OGo p.tables e below _ (Tj36.setTop (mkF m 53 #[.val (.ref c1), .val (.int (0 : Int32)), .val (.int (5 : Int32)), .val (.int (2 : Int32)), .val (.int (3 : Int32)), .val (.long (wk 3)), .second] [(.ref c1), (.int (3 : Int32)), (.ref c1)]))
      refine OGo.st (fun _ k_ => XS.iloadN Xj36.here hx rfl (hb hby own_d_jdk_2529_method_15_code_53) rfl k_) ?_
      show OGo p.tables e below _ (Tj36.setTop (mkF m 54 #[.val (.ref c1), .val (.int (0 : Int32)), .val (.int (5 : Int32)), .val (.int (2 : Int32)), .val (.int (3 : Int32)), .val (.long (wk 3)), .second] [(.int (2 : Int32)), (.ref c1), (.int (3 : Int32)), (.ref c1)]))
      have qz40 := own_ldJ Xj36 hx hZ ej36 f36_0 (j := (2 : Int32)) (v := (wk 2)) (by decide) rfl (g := (mkF m 54 #[.val (.ref c1), .val (.int (0 : Int32)), .val (.int (5 : Int32)), .val (.int (2 : Int32)), .val (.int (3 : Int32)), .val (.long (wk 3)), .second] [(.int (2 : Int32)), (.ref c1), (.int (3 : Int32)), (.ref c1)])) rfl rfl (hb hby own_d_jdk_2529_method_15_code_54)
      refine OGo.st qz40 ?_
      show OGo p.tables e below _ (Tj36.setTop (mkF m 55 #[.val (.ref c1), .val (.int (0 : Int32)), .val (.int (5 : Int32)), .val (.int (2 : Int32)), .val (.int (3 : Int32)), .val (.long (wk 3)), .second] [(.long (wk 2)), (.int (3 : Int32)), (.ref c1)]))
      obtain ⟨T41, hz41, X41, ez41, W41, V41, st41⟩ := own_stJ Xj36 hx hZ ej36 f36_0 (j := (3 : Int32)) (by decide)  (g := (mkF m 55 #[.val (.ref c1), .val (.int (0 : Int32)), .val (.int (5 : Int32)), .val (.int (2 : Int32)), .val (.int (3 : Int32)), .val (.long (wk 3)), .second] [(.long (wk 2)), (.int (3 : Int32)), (.ref c1)])) rfl rfl (hb hby own_d_jdk_2529_method_15_code_55)
      have N41 := Fr.snoc X41 Nj36 g_c1
      have K_42 : Keep h0 hz41 [c1] := Kj36.wr W41 (Or.inl (List.mem_of_getElem? (i := 0) rfl))
      refine OGo.st st41 ?_
      show OGo p.tables e below _ (T41.setTop (mkF m 56 #[.val (.ref c1), .val (.int (0 : Int32)), .val (.int (5 : Int32)), .val (.int (2 : Int32)), .val (.int (3 : Int32)), .val (.long (wk 3)), .second] []))
      refine OGo.st (fun _ k_ => XS.goto X41.here hx rfl (pc0 := 56) (pc' := 31) rfl (hb hby own_d_jdk_2529_method_15_code_56) (by decide) (by decide) k_) ?_
      show OGo p.tables e below _ (T41.setTop (mkF m 31 #[.val (.ref c1), .val (.int (0 : Int32)), .val (.int (5 : Int32)), .val (.int (2 : Int32)), .val (.int (3 : Int32)), .val (.long (wk 3)), .second] []))
      refine OGo.st (fun _ k_ => XS.iinc X41.here hx rfl (hb hby own_d_jdk_2529_method_15_code_31) rfl (l' := #[.val (.ref c1), .val (.int (0 : Int32)), .val (.int (5 : Int32)), .val (.int (1 : Int32)), .val (.int (3 : Int32)), .val (.long (wk 3)), .second]) rfl k_) ?_
      show OGo p.tables e below _ (T41.setTop (mkF m 34 #[.val (.ref c1), .val (.int (0 : Int32)), .val (.int (5 : Int32)), .val (.int (1 : Int32)), .val (.int (3 : Int32)), .val (.long (wk 3)), .second] []))
      refine OGo.st (fun _ k_ => XS.iloadN X41.here hx rfl (hb hby own_d_jdk_2529_method_15_code_34) rfl k_) ?_
      show OGo p.tables e below _ (T41.setTop (mkF m 35 #[.val (.ref c1), .val (.int (0 : Int32)), .val (.int (5 : Int32)), .val (.int (1 : Int32)), .val (.int (3 : Int32)), .val (.long (wk 3)), .second] [(.int (1 : Int32))]))
      refine OGo.st (fun _ k_ => XS.iloadN X41.here hx rfl (hb hby own_d_jdk_2529_method_15_code_35) rfl k_) ?_
      show OGo p.tables e below _ (T41.setTop (mkF m 36 #[.val (.ref c1), .val (.int (0 : Int32)), .val (.int (5 : Int32)), .val (.int (1 : Int32)), .val (.int (3 : Int32)), .val (.long (wk 3)), .second] [(.int (0 : Int32)), (.int (1 : Int32))]))
      refine OGo.st (fun _ k_ => XS.icmpNo X41.here hx rfl (hb hby own_d_jdk_2529_method_15_code_36) rfl (XT.ii_lt_f (by decide)) k_) ?_
      show OGo p.tables e below _ (T41.setTop (mkF m 39 #[.val (.ref c1), .val (.int (0 : Int32)), .val (.int (5 : Int32)), .val (.int (1 : Int32)), .val (.int (3 : Int32)), .val (.long (wk 3)), .second] []))
      refine OGo.st (fun _ k_ => XS.lload X41.here hx rfl (hb hby own_d_jdk_2529_method_15_code_39) rfl k_) ?_
      show OGo p.tables e below _ (T41.setTop (mkF m 41 #[.val (.ref c1), .val (.int (0 : Int32)), .val (.int (5 : Int32)), .val (.int (1 : Int32)), .val (.int (3 : Int32)), .val (.long (wk 3)), .second] [(.long (wk 3))]))
      refine OGo.st (fun _ k_ => XS.aloadN X41.here hx rfl (hb hby own_d_jdk_2529_method_15_code_41) rfl rfl k_) ?_
      show OGo p.tables e below _ (T41.setTop (mkF m 42 #[.val (.ref c1), .val (.int (0 : Int32)), .val (.int (5 : Int32)), .val (.int (1 : Int32)), .val (.int (3 : Int32)), .val (.long (wk 3)), .second] [(.ref c1), (.long (wk 3))]))
      refine OGo.st (fun _ k_ => XS.iloadN X41.here hx rfl (hb hby own_d_jdk_2529_method_15_code_42) rfl k_) ?_
      show OGo p.tables e below _ (T41.setTop (mkF m 43 #[.val (.ref c1), .val (.int (0 : Int32)), .val (.int (5 : Int32)), .val (.int (1 : Int32)), .val (.int (3 : Int32)), .val (.long (wk 3)), .second] [(.int (1 : Int32)), (.ref c1), (.long (wk 3))]))
      have qz43 := own_ldJ X41 hx hZ ez41 V41 (j := (1 : Int32)) (v := (wk 1)) (by decide) rfl (g := (mkF m 43 #[.val (.ref c1), .val (.int (0 : Int32)), .val (.int (5 : Int32)), .val (.int (1 : Int32)), .val (.int (3 : Int32)), .val (.long (wk 3)), .second] [(.int (1 : Int32)), (.ref c1), (.long (wk 3))])) rfl rfl (hb hby own_d_jdk_2529_method_15_code_43)
      refine OGo.st qz43 ?_
      show OGo p.tables e below _ (T41.setTop (mkF m 44 #[.val (.ref c1), .val (.int (0 : Int32)), .val (.int (5 : Int32)), .val (.int (1 : Int32)), .val (.int (3 : Int32)), .val (.long (wk 3)), .second] [(.long (wk 1)), (.long (wk 3))]))
      by_cases hc44 : (wk 3) < (wk 1)
      · refine OGo.st (fun _ k_ => XT.lcmp X41.here hx rfl (hb hby own_d_jdk_2529_method_15_code_44) rfl k_) ?_
        show OGo p.tables e below _ (T41.setTop (mkF m 45 #[.val (.ref c1), .val (.int (0 : Int32)), .val (.int (5 : Int32)), .val (.int (1 : Int32)), .val (.int (3 : Int32)), .val (.long (wk 3)), .second] [(.int (XT.cmpL (wk 3) (wk 1)))]))
        refine OGo.st (fun _ k_ => XS.ifNo X41.here hx rfl (hb hby own_d_jdk_2529_method_15_code_45) rfl (XT.ll_ge_f hc44) k_) ?_
        show OGo p.tables e below _ (T41.setTop (mkF m 48 #[.val (.ref c1), .val (.int (0 : Int32)), .val (.int (5 : Int32)), .val (.int (1 : Int32)), .val (.int (3 : Int32)), .val (.long (wk 3)), .second] []))
        refine OGo.st (fun _ k_ => XS.aloadN X41.here hx rfl (hb hby own_d_jdk_2529_method_15_code_48) rfl rfl k_) ?_
        show OGo p.tables e below _ (T41.setTop (mkF m 49 #[.val (.ref c1), .val (.int (0 : Int32)), .val (.int (5 : Int32)), .val (.int (1 : Int32)), .val (.int (3 : Int32)), .val (.long (wk 3)), .second] [(.ref c1)]))
        refine OGo.st (fun _ k_ => XS.iloadN X41.here hx rfl (hb hby own_d_jdk_2529_method_15_code_49) rfl k_) ?_
        show OGo p.tables e below _ (T41.setTop (mkF m 50 #[.val (.ref c1), .val (.int (0 : Int32)), .val (.int (5 : Int32)), .val (.int (1 : Int32)), .val (.int (3 : Int32)), .val (.long (wk 3)), .second] [(.int (1 : Int32)), (.ref c1)]))
        refine OGo.st (fun _ k_ => XS.iconst X41.here hx rfl (hb hby own_d_jdk_2529_method_15_code_50) k_) ?_
        show OGo p.tables e below _ (T41.setTop (mkF m 51 #[.val (.ref c1), .val (.int (0 : Int32)), .val (.int (5 : Int32)), .val (.int (1 : Int32)), .val (.int (3 : Int32)), .val (.long (wk 3)), .second] [(.int (1 : Int32)), (.int (1 : Int32)), (.ref c1)]))
        refine OGo.st (fun _ k_ => XS.iadd X41.here hx rfl (hb hby own_d_jdk_2529_method_15_code_51) rfl k_) ?_
        show OGo p.tables e below _ (T41.setTop (mkF m 52 #[.val (.ref c1), .val (.int (0 : Int32)), .val (.int (5 : Int32)), .val (.int (1 : Int32)), .val (.int (3 : Int32)), .val (.long (wk 3)), .second] [(.int (2 : Int32)), (.ref c1)]))
        refine OGo.st (fun _ k_ => XS.aloadN X41.here hx rfl (hb hby own_d_jdk_2529_method_15_code_52) rfl rfl k_) ?_
        show OGo p.tables e below _ (T41.setTop (mkF m 53 #[.val (.ref c1), .val (.int (0 : Int32)), .val (.int (5 : Int32)), .val (.int (1 : Int32)), .val (.int (3 : Int32)), .val (.long (wk 3)), .second] [(.ref c1), (.int (2 : Int32)), (.ref c1)]))
        refine OGo.st (fun _ k_ => XS.iloadN X41.here hx rfl (hb hby own_d_jdk_2529_method_15_code_53) rfl k_) ?_
        show OGo p.tables e below _ (T41.setTop (mkF m 54 #[.val (.ref c1), .val (.int (0 : Int32)), .val (.int (5 : Int32)), .val (.int (1 : Int32)), .val (.int (3 : Int32)), .val (.long (wk 3)), .second] [(.int (1 : Int32)), (.ref c1), (.int (2 : Int32)), (.ref c1)]))
        have qz44 := own_ldJ X41 hx hZ ez41 V41 (j := (1 : Int32)) (v := (wk 1)) (by decide) rfl (g := (mkF m 54 #[.val (.ref c1), .val (.int (0 : Int32)), .val (.int (5 : Int32)), .val (.int (1 : Int32)), .val (.int (3 : Int32)), .val (.long (wk 3)), .second] [(.int (1 : Int32)), (.ref c1), (.int (2 : Int32)), (.ref c1)])) rfl rfl (hb hby own_d_jdk_2529_method_15_code_54)
        refine OGo.st qz44 ?_
        show OGo p.tables e below _ (T41.setTop (mkF m 55 #[.val (.ref c1), .val (.int (0 : Int32)), .val (.int (5 : Int32)), .val (.int (1 : Int32)), .val (.int (3 : Int32)), .val (.long (wk 3)), .second] [(.long (wk 1)), (.int (2 : Int32)), (.ref c1)]))
        obtain ⟨T45, hz45, X45, ez45, W45, V45, st45⟩ := own_stJ X41 hx hZ ez41 V41 (j := (2 : Int32)) (by decide)  (g := (mkF m 55 #[.val (.ref c1), .val (.int (0 : Int32)), .val (.int (5 : Int32)), .val (.int (1 : Int32)), .val (.int (3 : Int32)), .val (.long (wk 3)), .second] [(.long (wk 1)), (.int (2 : Int32)), (.ref c1)])) rfl rfl (hb hby own_d_jdk_2529_method_15_code_55)
        have N45 := Fr.snoc X45 N41 g_c1
        have K_46 : Keep h0 hz45 [c1] := K_42.wr W45 (Or.inl (List.mem_of_getElem? (i := 0) rfl))
        refine OGo.st st45 ?_
        show OGo p.tables e below _ (T45.setTop (mkF m 56 #[.val (.ref c1), .val (.int (0 : Int32)), .val (.int (5 : Int32)), .val (.int (1 : Int32)), .val (.int (3 : Int32)), .val (.long (wk 3)), .second] []))
        refine OGo.st (fun _ k_ => XS.goto X45.here hx rfl (pc0 := 56) (pc' := 31) rfl (hb hby own_d_jdk_2529_method_15_code_56) (by decide) (by decide) k_) ?_
        show OGo p.tables e below _ (T45.setTop (mkF m 31 #[.val (.ref c1), .val (.int (0 : Int32)), .val (.int (5 : Int32)), .val (.int (1 : Int32)), .val (.int (3 : Int32)), .val (.long (wk 3)), .second] []))
        refine OGo.st (fun _ k_ => XS.iinc X45.here hx rfl (hb hby own_d_jdk_2529_method_15_code_31) rfl (l' := #[.val (.ref c1), .val (.int (0 : Int32)), .val (.int (5 : Int32)), .val (.int (0 : Int32)), .val (.int (3 : Int32)), .val (.long (wk 3)), .second]) rfl k_) ?_
        show OGo p.tables e below _ (T45.setTop (mkF m 34 #[.val (.ref c1), .val (.int (0 : Int32)), .val (.int (5 : Int32)), .val (.int (0 : Int32)), .val (.int (3 : Int32)), .val (.long (wk 3)), .second] []))
        refine OGo.st (fun _ k_ => XS.iloadN X45.here hx rfl (hb hby own_d_jdk_2529_method_15_code_34) rfl k_) ?_
        show OGo p.tables e below _ (T45.setTop (mkF m 35 #[.val (.ref c1), .val (.int (0 : Int32)), .val (.int (5 : Int32)), .val (.int (0 : Int32)), .val (.int (3 : Int32)), .val (.long (wk 3)), .second] [(.int (0 : Int32))]))
        refine OGo.st (fun _ k_ => XS.iloadN X45.here hx rfl (hb hby own_d_jdk_2529_method_15_code_35) rfl k_) ?_
        show OGo p.tables e below _ (T45.setTop (mkF m 36 #[.val (.ref c1), .val (.int (0 : Int32)), .val (.int (5 : Int32)), .val (.int (0 : Int32)), .val (.int (3 : Int32)), .val (.long (wk 3)), .second] [(.int (0 : Int32)), (.int (0 : Int32))]))
        refine OGo.st (fun _ k_ => XS.icmpNo X45.here hx rfl (hb hby own_d_jdk_2529_method_15_code_36) rfl (XT.ii_lt_f (by decide)) k_) ?_
        show OGo p.tables e below _ (T45.setTop (mkF m 39 #[.val (.ref c1), .val (.int (0 : Int32)), .val (.int (5 : Int32)), .val (.int (0 : Int32)), .val (.int (3 : Int32)), .val (.long (wk 3)), .second] []))
        refine OGo.st (fun _ k_ => XS.lload X45.here hx rfl (hb hby own_d_jdk_2529_method_15_code_39) rfl k_) ?_
        show OGo p.tables e below _ (T45.setTop (mkF m 41 #[.val (.ref c1), .val (.int (0 : Int32)), .val (.int (5 : Int32)), .val (.int (0 : Int32)), .val (.int (3 : Int32)), .val (.long (wk 3)), .second] [(.long (wk 3))]))
        refine OGo.st (fun _ k_ => XS.aloadN X45.here hx rfl (hb hby own_d_jdk_2529_method_15_code_41) rfl rfl k_) ?_
        show OGo p.tables e below _ (T45.setTop (mkF m 42 #[.val (.ref c1), .val (.int (0 : Int32)), .val (.int (5 : Int32)), .val (.int (0 : Int32)), .val (.int (3 : Int32)), .val (.long (wk 3)), .second] [(.ref c1), (.long (wk 3))]))
        refine OGo.st (fun _ k_ => XS.iloadN X45.here hx rfl (hb hby own_d_jdk_2529_method_15_code_42) rfl k_) ?_
        show OGo p.tables e below _ (T45.setTop (mkF m 43 #[.val (.ref c1), .val (.int (0 : Int32)), .val (.int (5 : Int32)), .val (.int (0 : Int32)), .val (.int (3 : Int32)), .val (.long (wk 3)), .second] [(.int (0 : Int32)), (.ref c1), (.long (wk 3))]))
        have qz47 := own_ldJ X45 hx hZ ez45 V45 (j := (0 : Int32)) (v := (wk 0)) (by decide) rfl (g := (mkF m 43 #[.val (.ref c1), .val (.int (0 : Int32)), .val (.int (5 : Int32)), .val (.int (0 : Int32)), .val (.int (3 : Int32)), .val (.long (wk 3)), .second] [(.int (0 : Int32)), (.ref c1), (.long (wk 3))])) rfl rfl (hb hby own_d_jdk_2529_method_15_code_43)
        refine OGo.st qz47 ?_
        show OGo p.tables e below _ (T45.setTop (mkF m 44 #[.val (.ref c1), .val (.int (0 : Int32)), .val (.int (5 : Int32)), .val (.int (0 : Int32)), .val (.int (3 : Int32)), .val (.long (wk 3)), .second] [(.long (wk 0)), (.long (wk 3))]))
        by_cases hc44_48 : (wk 3) < (wk 0)
        · refine OGo.st (fun _ k_ => XT.lcmp X45.here hx rfl (hb hby own_d_jdk_2529_method_15_code_44) rfl k_) ?_
          show OGo p.tables e below _ (T45.setTop (mkF m 45 #[.val (.ref c1), .val (.int (0 : Int32)), .val (.int (5 : Int32)), .val (.int (0 : Int32)), .val (.int (3 : Int32)), .val (.long (wk 3)), .second] [(.int (XT.cmpL (wk 3) (wk 0)))]))
          refine OGo.st (fun _ k_ => XS.ifNo X45.here hx rfl (hb hby own_d_jdk_2529_method_15_code_45) rfl (XT.ll_ge_f hc44_48) k_) ?_
          show OGo p.tables e below _ (T45.setTop (mkF m 48 #[.val (.ref c1), .val (.int (0 : Int32)), .val (.int (5 : Int32)), .val (.int (0 : Int32)), .val (.int (3 : Int32)), .val (.long (wk 3)), .second] []))
          refine OGo.st (fun _ k_ => XS.aloadN X45.here hx rfl (hb hby own_d_jdk_2529_method_15_code_48) rfl rfl k_) ?_
          show OGo p.tables e below _ (T45.setTop (mkF m 49 #[.val (.ref c1), .val (.int (0 : Int32)), .val (.int (5 : Int32)), .val (.int (0 : Int32)), .val (.int (3 : Int32)), .val (.long (wk 3)), .second] [(.ref c1)]))
          refine OGo.st (fun _ k_ => XS.iloadN X45.here hx rfl (hb hby own_d_jdk_2529_method_15_code_49) rfl k_) ?_
          show OGo p.tables e below _ (T45.setTop (mkF m 50 #[.val (.ref c1), .val (.int (0 : Int32)), .val (.int (5 : Int32)), .val (.int (0 : Int32)), .val (.int (3 : Int32)), .val (.long (wk 3)), .second] [(.int (0 : Int32)), (.ref c1)]))
          refine OGo.st (fun _ k_ => XS.iconst X45.here hx rfl (hb hby own_d_jdk_2529_method_15_code_50) k_) ?_
          show OGo p.tables e below _ (T45.setTop (mkF m 51 #[.val (.ref c1), .val (.int (0 : Int32)), .val (.int (5 : Int32)), .val (.int (0 : Int32)), .val (.int (3 : Int32)), .val (.long (wk 3)), .second] [(.int (1 : Int32)), (.int (0 : Int32)), (.ref c1)]))
          refine OGo.st (fun _ k_ => XS.iadd X45.here hx rfl (hb hby own_d_jdk_2529_method_15_code_51) rfl k_) ?_
          show OGo p.tables e below _ (T45.setTop (mkF m 52 #[.val (.ref c1), .val (.int (0 : Int32)), .val (.int (5 : Int32)), .val (.int (0 : Int32)), .val (.int (3 : Int32)), .val (.long (wk 3)), .second] [(.int (1 : Int32)), (.ref c1)]))
          refine OGo.st (fun _ k_ => XS.aloadN X45.here hx rfl (hb hby own_d_jdk_2529_method_15_code_52) rfl rfl k_) ?_
          show OGo p.tables e below _ (T45.setTop (mkF m 53 #[.val (.ref c1), .val (.int (0 : Int32)), .val (.int (5 : Int32)), .val (.int (0 : Int32)), .val (.int (3 : Int32)), .val (.long (wk 3)), .second] [(.ref c1), (.int (1 : Int32)), (.ref c1)]))
          refine OGo.st (fun _ k_ => XS.iloadN X45.here hx rfl (hb hby own_d_jdk_2529_method_15_code_53) rfl k_) ?_
          show OGo p.tables e below _ (T45.setTop (mkF m 54 #[.val (.ref c1), .val (.int (0 : Int32)), .val (.int (5 : Int32)), .val (.int (0 : Int32)), .val (.int (3 : Int32)), .val (.long (wk 3)), .second] [(.int (0 : Int32)), (.ref c1), (.int (1 : Int32)), (.ref c1)]))
          have qz49 := own_ldJ X45 hx hZ ez45 V45 (j := (0 : Int32)) (v := (wk 0)) (by decide) rfl (g := (mkF m 54 #[.val (.ref c1), .val (.int (0 : Int32)), .val (.int (5 : Int32)), .val (.int (0 : Int32)), .val (.int (3 : Int32)), .val (.long (wk 3)), .second] [(.int (0 : Int32)), (.ref c1), (.int (1 : Int32)), (.ref c1)])) rfl rfl (hb hby own_d_jdk_2529_method_15_code_54)
          refine OGo.st qz49 ?_
          show OGo p.tables e below _ (T45.setTop (mkF m 55 #[.val (.ref c1), .val (.int (0 : Int32)), .val (.int (5 : Int32)), .val (.int (0 : Int32)), .val (.int (3 : Int32)), .val (.long (wk 3)), .second] [(.long (wk 0)), (.int (1 : Int32)), (.ref c1)]))
          obtain ⟨T50, hz50, X50, ez50, W50, V50, st50⟩ := own_stJ X45 hx hZ ez45 V45 (j := (1 : Int32)) (by decide)  (g := (mkF m 55 #[.val (.ref c1), .val (.int (0 : Int32)), .val (.int (5 : Int32)), .val (.int (0 : Int32)), .val (.int (3 : Int32)), .val (.long (wk 3)), .second] [(.long (wk 0)), (.int (1 : Int32)), (.ref c1)])) rfl rfl (hb hby own_d_jdk_2529_method_15_code_55)
          have N50 := Fr.snoc X50 N45 g_c1
          have K_51 : Keep h0 hz50 [c1] := K_46.wr W50 (Or.inl (List.mem_of_getElem? (i := 0) rfl))
          refine OGo.st st50 ?_
          show OGo p.tables e below _ (T50.setTop (mkF m 56 #[.val (.ref c1), .val (.int (0 : Int32)), .val (.int (5 : Int32)), .val (.int (0 : Int32)), .val (.int (3 : Int32)), .val (.long (wk 3)), .second] []))
          refine OGo.st (fun _ k_ => XS.goto X50.here hx rfl (pc0 := 56) (pc' := 31) rfl (hb hby own_d_jdk_2529_method_15_code_56) (by decide) (by decide) k_) ?_
          show OGo p.tables e below _ (T50.setTop (mkF m 31 #[.val (.ref c1), .val (.int (0 : Int32)), .val (.int (5 : Int32)), .val (.int (0 : Int32)), .val (.int (3 : Int32)), .val (.long (wk 3)), .second] []))
          refine OGo.st (fun _ k_ => XS.iinc X50.here hx rfl (hb hby own_d_jdk_2529_method_15_code_31) rfl (l' := #[.val (.ref c1), .val (.int (0 : Int32)), .val (.int (5 : Int32)), .val (.int (-1 : Int32)), .val (.int (3 : Int32)), .val (.long (wk 3)), .second]) rfl k_) ?_
          show OGo p.tables e below _ (T50.setTop (mkF m 34 #[.val (.ref c1), .val (.int (0 : Int32)), .val (.int (5 : Int32)), .val (.int (-1 : Int32)), .val (.int (3 : Int32)), .val (.long (wk 3)), .second] []))
          refine OGo.st (fun _ k_ => XS.iloadN X50.here hx rfl (hb hby own_d_jdk_2529_method_15_code_34) rfl k_) ?_
          show OGo p.tables e below _ (T50.setTop (mkF m 35 #[.val (.ref c1), .val (.int (0 : Int32)), .val (.int (5 : Int32)), .val (.int (-1 : Int32)), .val (.int (3 : Int32)), .val (.long (wk 3)), .second] [(.int (-1 : Int32))]))
          refine OGo.st (fun _ k_ => XS.iloadN X50.here hx rfl (hb hby own_d_jdk_2529_method_15_code_35) rfl k_) ?_
          show OGo p.tables e below _ (T50.setTop (mkF m 36 #[.val (.ref c1), .val (.int (0 : Int32)), .val (.int (5 : Int32)), .val (.int (-1 : Int32)), .val (.int (3 : Int32)), .val (.long (wk 3)), .second] [(.int (0 : Int32)), (.int (-1 : Int32))]))
          refine OGo.st (fun _ k_ => XS.icmpYes X50.here hx rfl (pc0 := 36) (pc' := 59) rfl (hb hby own_d_jdk_2529_method_15_code_36) rfl (XT.ii_lt_t (by decide)) (by decide) (by decide) k_) ?_
          show OGo p.tables e below _ (T50.setTop (mkF m 59 #[.val (.ref c1), .val (.int (0 : Int32)), .val (.int (5 : Int32)), .val (.int (-1 : Int32)), .val (.int (3 : Int32)), .val (.long (wk 3)), .second] []))
          refine OGo.st (fun _ k_ => XS.aloadN X50.here hx rfl (hb hby own_d_jdk_2529_method_15_code_59) rfl rfl k_) ?_
          show OGo p.tables e below _ (T50.setTop (mkF m 60 #[.val (.ref c1), .val (.int (0 : Int32)), .val (.int (5 : Int32)), .val (.int (-1 : Int32)), .val (.int (3 : Int32)), .val (.long (wk 3)), .second] [(.ref c1)]))
          refine OGo.st (fun _ k_ => XS.iloadN X50.here hx rfl (hb hby own_d_jdk_2529_method_15_code_60) rfl k_) ?_
          show OGo p.tables e below _ (T50.setTop (mkF m 61 #[.val (.ref c1), .val (.int (0 : Int32)), .val (.int (5 : Int32)), .val (.int (-1 : Int32)), .val (.int (3 : Int32)), .val (.long (wk 3)), .second] [(.int (-1 : Int32)), (.ref c1)]))
          refine OGo.st (fun _ k_ => XS.iconst X50.here hx rfl (hb hby own_d_jdk_2529_method_15_code_61) k_) ?_
          show OGo p.tables e below _ (T50.setTop (mkF m 62 #[.val (.ref c1), .val (.int (0 : Int32)), .val (.int (5 : Int32)), .val (.int (-1 : Int32)), .val (.int (3 : Int32)), .val (.long (wk 3)), .second] [(.int (1 : Int32)), (.int (-1 : Int32)), (.ref c1)]))
          refine OGo.st (fun _ k_ => XS.iadd X50.here hx rfl (hb hby own_d_jdk_2529_method_15_code_62) rfl k_) ?_
          show OGo p.tables e below _ (T50.setTop (mkF m 63 #[.val (.ref c1), .val (.int (0 : Int32)), .val (.int (5 : Int32)), .val (.int (-1 : Int32)), .val (.int (3 : Int32)), .val (.long (wk 3)), .second] [(.int (0 : Int32)), (.ref c1)]))
          refine OGo.st (fun _ k_ => XS.lload X50.here hx rfl (hb hby own_d_jdk_2529_method_15_code_63) rfl k_) ?_
          show OGo p.tables e below _ (T50.setTop (mkF m 65 #[.val (.ref c1), .val (.int (0 : Int32)), .val (.int (5 : Int32)), .val (.int (-1 : Int32)), .val (.int (3 : Int32)), .val (.long (wk 3)), .second] [(.long (wk 3)), (.int (0 : Int32)), (.ref c1)]))
          obtain ⟨T52, hz52, X52, ez52, W52, V52, st52⟩ := own_stJ X50 hx hZ ez50 V50 (j := (0 : Int32)) (by decide)  (g := (mkF m 65 #[.val (.ref c1), .val (.int (0 : Int32)), .val (.int (5 : Int32)), .val (.int (-1 : Int32)), .val (.int (3 : Int32)), .val (.long (wk 3)), .second] [(.long (wk 3)), (.int (0 : Int32)), (.ref c1)])) rfl rfl (hb hby own_d_jdk_2529_method_15_code_65)
          have N52 := Fr.snoc X52 N50 g_c1
          have K_53 : Keep h0 hz52 [c1] := K_51.wr W52 (Or.inl (List.mem_of_getElem? (i := 0) rfl))
          refine OGo.st st52 ?_
          show OGo p.tables e below _ (T52.setTop (mkF m 66 #[.val (.ref c1), .val (.int (0 : Int32)), .val (.int (5 : Int32)), .val (.int (-1 : Int32)), .val (.int (3 : Int32)), .val (.long (wk 3)), .second] []))
          refine OGo.st (fun _ k_ => XS.goto X52.here hx rfl (pc0 := 66) (pc' := 3) rfl (hb hby own_d_jdk_2529_method_15_code_66) (by decide) (by decide) k_) ?_
          have Af_54 : Arf Z hz52 c1 k1 .long 5 (own_L (own_ins wk 3 0)) := V52.congr (fun i hi => match i, hi with | 0, _ => rfl | 1, _ => rfl | 2, _ => rfl | 3, _ => rfl | 4, _ => rfl | (n_ + 5), q_ => absurd q_ (by show ¬ n_ + 5 < 5; omega))
          exact J3 T52 _ hz52 (-1 : Int32) (wk 3) (own_ins wk 3 0) X52 ez52 N52 K_53 Af_54 (own_step (k := 2) (p := 0) hI (by decide) (by decide) (fun _ => hc44_48) (fun q => absurd q (by decide)))
        · refine OGo.st (fun _ k_ => XT.lcmp X45.here hx rfl (hb hby own_d_jdk_2529_method_15_code_44) rfl k_) ?_
          show OGo p.tables e below _ (T45.setTop (mkF m 45 #[.val (.ref c1), .val (.int (0 : Int32)), .val (.int (5 : Int32)), .val (.int (0 : Int32)), .val (.int (3 : Int32)), .val (.long (wk 3)), .second] [(.int (XT.cmpL (wk 3) (wk 0)))]))
          refine OGo.st (fun _ k_ => XS.ifYes X45.here hx rfl (pc0 := 45) (pc' := 59) rfl (hb hby own_d_jdk_2529_method_15_code_45) rfl (XT.ll_ge_t hc44_48) (by decide) (by decide) k_) ?_
          show OGo p.tables e below _ (T45.setTop (mkF m 59 #[.val (.ref c1), .val (.int (0 : Int32)), .val (.int (5 : Int32)), .val (.int (0 : Int32)), .val (.int (3 : Int32)), .val (.long (wk 3)), .second] []))
          refine OGo.st (fun _ k_ => XS.aloadN X45.here hx rfl (hb hby own_d_jdk_2529_method_15_code_59) rfl rfl k_) ?_
          show OGo p.tables e below _ (T45.setTop (mkF m 60 #[.val (.ref c1), .val (.int (0 : Int32)), .val (.int (5 : Int32)), .val (.int (0 : Int32)), .val (.int (3 : Int32)), .val (.long (wk 3)), .second] [(.ref c1)]))
          refine OGo.st (fun _ k_ => XS.iloadN X45.here hx rfl (hb hby own_d_jdk_2529_method_15_code_60) rfl k_) ?_
          show OGo p.tables e below _ (T45.setTop (mkF m 61 #[.val (.ref c1), .val (.int (0 : Int32)), .val (.int (5 : Int32)), .val (.int (0 : Int32)), .val (.int (3 : Int32)), .val (.long (wk 3)), .second] [(.int (0 : Int32)), (.ref c1)]))
          refine OGo.st (fun _ k_ => XS.iconst X45.here hx rfl (hb hby own_d_jdk_2529_method_15_code_61) k_) ?_
          show OGo p.tables e below _ (T45.setTop (mkF m 62 #[.val (.ref c1), .val (.int (0 : Int32)), .val (.int (5 : Int32)), .val (.int (0 : Int32)), .val (.int (3 : Int32)), .val (.long (wk 3)), .second] [(.int (1 : Int32)), (.int (0 : Int32)), (.ref c1)]))
          refine OGo.st (fun _ k_ => XS.iadd X45.here hx rfl (hb hby own_d_jdk_2529_method_15_code_62) rfl k_) ?_
          show OGo p.tables e below _ (T45.setTop (mkF m 63 #[.val (.ref c1), .val (.int (0 : Int32)), .val (.int (5 : Int32)), .val (.int (0 : Int32)), .val (.int (3 : Int32)), .val (.long (wk 3)), .second] [(.int (1 : Int32)), (.ref c1)]))
          refine OGo.st (fun _ k_ => XS.lload X45.here hx rfl (hb hby own_d_jdk_2529_method_15_code_63) rfl k_) ?_
          show OGo p.tables e below _ (T45.setTop (mkF m 65 #[.val (.ref c1), .val (.int (0 : Int32)), .val (.int (5 : Int32)), .val (.int (0 : Int32)), .val (.int (3 : Int32)), .val (.long (wk 3)), .second] [(.long (wk 3)), (.int (1 : Int32)), (.ref c1)]))
          obtain ⟨T55, hz55, X55, ez55, W55, V55, st55⟩ := own_stJ X45 hx hZ ez45 V45 (j := (1 : Int32)) (by decide)  (g := (mkF m 65 #[.val (.ref c1), .val (.int (0 : Int32)), .val (.int (5 : Int32)), .val (.int (0 : Int32)), .val (.int (3 : Int32)), .val (.long (wk 3)), .second] [(.long (wk 3)), (.int (1 : Int32)), (.ref c1)])) rfl rfl (hb hby own_d_jdk_2529_method_15_code_65)
          have N55 := Fr.snoc X55 N45 g_c1
          have K_56 : Keep h0 hz55 [c1] := K_46.wr W55 (Or.inl (List.mem_of_getElem? (i := 0) rfl))
          refine OGo.st st55 ?_
          show OGo p.tables e below _ (T55.setTop (mkF m 66 #[.val (.ref c1), .val (.int (0 : Int32)), .val (.int (5 : Int32)), .val (.int (0 : Int32)), .val (.int (3 : Int32)), .val (.long (wk 3)), .second] []))
          refine OGo.st (fun _ k_ => XS.goto X55.here hx rfl (pc0 := 66) (pc' := 3) rfl (hb hby own_d_jdk_2529_method_15_code_66) (by decide) (by decide) k_) ?_
          have Af_57 : Arf Z hz55 c1 k1 .long 5 (own_L (own_ins wk 3 1)) := V55.congr (fun i hi => match i, hi with | 0, _ => rfl | 1, _ => rfl | 2, _ => rfl | 3, _ => rfl | 4, _ => rfl | (n_ + 5), q_ => absurd q_ (by show ¬ n_ + 5 < 5; omega))
          exact J3 T55 _ hz55 (0 : Int32) (wk 3) (own_ins wk 3 1) X55 ez55 N55 K_56 Af_57 (own_step (k := 2) (p := 1) hI (by decide) (by decide) (fun _ => hc44) (fun _ => hc44_48))
      · refine OGo.st (fun _ k_ => XT.lcmp X41.here hx rfl (hb hby own_d_jdk_2529_method_15_code_44) rfl k_) ?_
        show OGo p.tables e below _ (T41.setTop (mkF m 45 #[.val (.ref c1), .val (.int (0 : Int32)), .val (.int (5 : Int32)), .val (.int (1 : Int32)), .val (.int (3 : Int32)), .val (.long (wk 3)), .second] [(.int (XT.cmpL (wk 3) (wk 1)))]))
        refine OGo.st (fun _ k_ => XS.ifYes X41.here hx rfl (pc0 := 45) (pc' := 59) rfl (hb hby own_d_jdk_2529_method_15_code_45) rfl (XT.ll_ge_t hc44) (by decide) (by decide) k_) ?_
        show OGo p.tables e below _ (T41.setTop (mkF m 59 #[.val (.ref c1), .val (.int (0 : Int32)), .val (.int (5 : Int32)), .val (.int (1 : Int32)), .val (.int (3 : Int32)), .val (.long (wk 3)), .second] []))
        refine OGo.st (fun _ k_ => XS.aloadN X41.here hx rfl (hb hby own_d_jdk_2529_method_15_code_59) rfl rfl k_) ?_
        show OGo p.tables e below _ (T41.setTop (mkF m 60 #[.val (.ref c1), .val (.int (0 : Int32)), .val (.int (5 : Int32)), .val (.int (1 : Int32)), .val (.int (3 : Int32)), .val (.long (wk 3)), .second] [(.ref c1)]))
        refine OGo.st (fun _ k_ => XS.iloadN X41.here hx rfl (hb hby own_d_jdk_2529_method_15_code_60) rfl k_) ?_
        show OGo p.tables e below _ (T41.setTop (mkF m 61 #[.val (.ref c1), .val (.int (0 : Int32)), .val (.int (5 : Int32)), .val (.int (1 : Int32)), .val (.int (3 : Int32)), .val (.long (wk 3)), .second] [(.int (1 : Int32)), (.ref c1)]))
        refine OGo.st (fun _ k_ => XS.iconst X41.here hx rfl (hb hby own_d_jdk_2529_method_15_code_61) k_) ?_
        show OGo p.tables e below _ (T41.setTop (mkF m 62 #[.val (.ref c1), .val (.int (0 : Int32)), .val (.int (5 : Int32)), .val (.int (1 : Int32)), .val (.int (3 : Int32)), .val (.long (wk 3)), .second] [(.int (1 : Int32)), (.int (1 : Int32)), (.ref c1)]))
        refine OGo.st (fun _ k_ => XS.iadd X41.here hx rfl (hb hby own_d_jdk_2529_method_15_code_62) rfl k_) ?_
        show OGo p.tables e below _ (T41.setTop (mkF m 63 #[.val (.ref c1), .val (.int (0 : Int32)), .val (.int (5 : Int32)), .val (.int (1 : Int32)), .val (.int (3 : Int32)), .val (.long (wk 3)), .second] [(.int (2 : Int32)), (.ref c1)]))
        refine OGo.st (fun _ k_ => XS.lload X41.here hx rfl (hb hby own_d_jdk_2529_method_15_code_63) rfl k_) ?_
        show OGo p.tables e below _ (T41.setTop (mkF m 65 #[.val (.ref c1), .val (.int (0 : Int32)), .val (.int (5 : Int32)), .val (.int (1 : Int32)), .val (.int (3 : Int32)), .val (.long (wk 3)), .second] [(.long (wk 3)), (.int (2 : Int32)), (.ref c1)]))
        obtain ⟨T58, hz58, X58, ez58, W58, V58, st58⟩ := own_stJ X41 hx hZ ez41 V41 (j := (2 : Int32)) (by decide)  (g := (mkF m 65 #[.val (.ref c1), .val (.int (0 : Int32)), .val (.int (5 : Int32)), .val (.int (1 : Int32)), .val (.int (3 : Int32)), .val (.long (wk 3)), .second] [(.long (wk 3)), (.int (2 : Int32)), (.ref c1)])) rfl rfl (hb hby own_d_jdk_2529_method_15_code_65)
        have N58 := Fr.snoc X58 N41 g_c1
        have K_59 : Keep h0 hz58 [c1] := K_42.wr W58 (Or.inl (List.mem_of_getElem? (i := 0) rfl))
        refine OGo.st st58 ?_
        show OGo p.tables e below _ (T58.setTop (mkF m 66 #[.val (.ref c1), .val (.int (0 : Int32)), .val (.int (5 : Int32)), .val (.int (1 : Int32)), .val (.int (3 : Int32)), .val (.long (wk 3)), .second] []))
        refine OGo.st (fun _ k_ => XS.goto X58.here hx rfl (pc0 := 66) (pc' := 3) rfl (hb hby own_d_jdk_2529_method_15_code_66) (by decide) (by decide) k_) ?_
        have Af_60 : Arf Z hz58 c1 k1 .long 5 (own_L (own_ins wk 3 2)) := V58.congr (fun i hi => match i, hi with | 0, _ => rfl | 1, _ => rfl | 2, _ => rfl | 3, _ => rfl | 4, _ => rfl | (n_ + 5), q_ => absurd q_ (by show ¬ n_ + 5 < 5; omega))
        exact J3 T58 _ hz58 (1 : Int32) (wk 3) (own_ins wk 3 2) X58 ez58 N58 K_59 Af_60 (own_step (k := 2) (p := 2) hI (by decide) (by decide) (fun _ => hc27) (fun _ => hc44))
    · refine OGo.st (fun _ k_ => XT.lcmp Xj36.here hx rfl (hb hby own_d_jdk_2529_method_15_code_27) rfl k_) ?_
      show OGo p.tables e below _ (Tj36.setTop (mkF m 28 #[.val (.ref c1), .val (.int (0 : Int32)), .val (.int (5 : Int32)), .val (.int (3 : Int32)), .val (.int (3 : Int32)), .val (.long (wk 3)), .second] [(.int (XT.cmpL (wk 3) (wk 2)))]))
      refine OGo.st (fun _ k_ => XS.ifYes Xj36.here hx rfl (pc0 := 28) (pc' := 66) rfl (hb hby own_d_jdk_2529_method_15_code_28) rfl (XT.ll_ge_t hc27) (by decide) (by decide) k_) ?_
      show OGo p.tables e below _ (Tj36.setTop (mkF m 66 #[.val (.ref c1), .val (.int (0 : Int32)), .val (.int (5 : Int32)), .val (.int (3 : Int32)), .val (.int (3 : Int32)), .val (.long (wk 3)), .second] []))
      refine OGo.st (fun _ k_ => XS.goto Xj36.here hx rfl (pc0 := 66) (pc' := 3) rfl (hb hby own_d_jdk_2529_method_15_code_66) (by decide) (by decide) k_) ?_
      have Af_61 : Arf Z hj36 c1 k1 .long 5 (own_L (own_ins wk 3 3)) := f36_0.congr (fun i hi => match i, hi with | 0, _ => rfl | 1, _ => rfl | 2, _ => rfl | 3, _ => rfl | 4, _ => rfl | (n_ + 5), q_ => absurd q_ (by show ¬ n_ + 5 < 5; omega))
      exact J3 Tj36 _ hj36 (3 : Int32) (wk 3) (own_ins wk 3 3) Xj36 ej36 Nj36 Kj36 Af_61 (own_step (k := 2) (p := 3) hI (by decide) (by decide) (fun q => absurd q (by decide)) (fun _ => hc27))
  have J1 : ∀ (Tj62 : State) (lj62 : List Loc) (hj62 : Heap) (x3 : Int32) (x5 : Int64) (wk : Nat → Int64), Stand p l e ({ frames := 0, cells := 0, slots := 0, locals := 0 } : Room) s m #[(.ref c1), (.int (0 : Int32)), (.int (5 : Int32))] below meth c Tj62 lj62 0 0 → Tj62.heap = hj62 → Fr n0 lj62 → Keep h0 hj62 [c1] → Arf Z hj62 c1 k1 .long 5 (own_L wk) → own_I 1 w wk → OGo p.tables e below (OPost s (own_Q_rm5 Z c1 k1 w h0 n0) 0 0) (Tj62.setTop (mkF m 3 #[.val (.ref c1), .val (.int (0 : Int32)), .val (.int (5 : Int32)), .val (.int x3), .val (.int (1 : Int32)), .val (.long x5), .second] [])) := by
    intro Tj62 lj62 hj62 x3 x5 wk Xj62 ej62 Nj62 Kj62 f62_0 hI
    show OGo p.tables e below _ (Tj62.setTop (mkF m 3 #[.val (.ref c1), .val (.int (0 : Int32)), .val (.int (5 : Int32)), .val (.int x3), .val (.int (1 : Int32)), .val (.long x5), .second] []))
    refine OGo.st (fun _ k_ => XS.iinc Xj62.here hx rfl (hb hby own_d_jdk_2529_method_15_code_3) rfl (l' := #[.val (.ref c1), .val (.int (0 : Int32)), .val (.int (5 : Int32)), .val (.int x3), .val (.int (2 : Int32)), .val (.long x5), .second]) rfl k_) ?_
    show OGo p.tables e below _ (Tj62.setTop (mkF m 6 #[.val (.ref c1), .val (.int (0 : Int32)), .val (.int (5 : Int32)), .val (.int x3), .val (.int (2 : Int32)), .val (.long x5), .second] []))
    refine OGo.st (fun _ k_ => XS.iload Xj62.here hx rfl (hb hby own_d_jdk_2529_method_15_code_6) rfl k_) ?_
    show OGo p.tables e below _ (Tj62.setTop (mkF m 8 #[.val (.ref c1), .val (.int (0 : Int32)), .val (.int (5 : Int32)), .val (.int x3), .val (.int (2 : Int32)), .val (.long x5), .second] [(.int (2 : Int32))]))
    refine OGo.st (fun _ k_ => XS.iloadN Xj62.here hx rfl (hb hby own_d_jdk_2529_method_15_code_8) rfl k_) ?_
    show OGo p.tables e below _ (Tj62.setTop (mkF m 9 #[.val (.ref c1), .val (.int (0 : Int32)), .val (.int (5 : Int32)), .val (.int x3), .val (.int (2 : Int32)), .val (.long x5), .second] [(.int (5 : Int32)), (.int (2 : Int32))]))
    refine OGo.st (fun _ k_ => XS.icmpNo Xj62.here hx rfl (hb hby own_d_jdk_2529_method_15_code_9) rfl (XT.ii_ge_f (by decide)) k_) ?_
    show OGo p.tables e below _ (Tj62.setTop (mkF m 12 #[.val (.ref c1), .val (.int (0 : Int32)), .val (.int (5 : Int32)), .val (.int x3), .val (.int (2 : Int32)), .val (.long x5), .second] []))
    refine OGo.st (fun _ k_ => XS.aloadN Xj62.here hx rfl (hb hby own_d_jdk_2529_method_15_code_12) rfl rfl k_) ?_
    show OGo p.tables e below _ (Tj62.setTop (mkF m 13 #[.val (.ref c1), .val (.int (0 : Int32)), .val (.int (5 : Int32)), .val (.int x3), .val (.int (2 : Int32)), .val (.long x5), .second] [(.ref c1)]))
    refine OGo.st (fun _ k_ => XS.iload Xj62.here hx rfl (hb hby own_d_jdk_2529_method_15_code_13) rfl k_) ?_
    show OGo p.tables e below _ (Tj62.setTop (mkF m 15 #[.val (.ref c1), .val (.int (0 : Int32)), .val (.int (5 : Int32)), .val (.int x3), .val (.int (2 : Int32)), .val (.long x5), .second] [(.int (2 : Int32)), (.ref c1)]))
    refine OGo.st (fun _ k_ => XS.dup Xj62.here hx rfl (hb hby own_d_jdk_2529_method_15_code_15) rfl rfl k_) ?_
    show OGo p.tables e below _ (Tj62.setTop (mkF m 16 #[.val (.ref c1), .val (.int (0 : Int32)), .val (.int (5 : Int32)), .val (.int x3), .val (.int (2 : Int32)), .val (.long x5), .second] [(.int (2 : Int32)), (.int (2 : Int32)), (.ref c1)]))
    refine OGo.st (fun _ k_ => XS.istoreN Xj62.here hx rfl (hb hby own_d_jdk_2529_method_15_code_16) rfl (l' := #[.val (.ref c1), .val (.int (0 : Int32)), .val (.int (5 : Int32)), .val (.int (2 : Int32)), .val (.int (2 : Int32)), .val (.long x5), .second]) rfl k_) ?_
    show OGo p.tables e below _ (Tj62.setTop (mkF m 17 #[.val (.ref c1), .val (.int (0 : Int32)), .val (.int (5 : Int32)), .val (.int (2 : Int32)), .val (.int (2 : Int32)), .val (.long x5), .second] [(.int (2 : Int32)), (.ref c1)]))
    have qz63 := own_ldJ Xj62 hx hZ ej62 f62_0 (j := (2 : Int32)) (v := (wk 2)) (by decide) rfl (g := (mkF m 17 #[.val (.ref c1), .val (.int (0 : Int32)), .val (.int (5 : Int32)), .val (.int (2 : Int32)), .val (.int (2 : Int32)), .val (.long x5), .second] [(.int (2 : Int32)), (.ref c1)])) rfl rfl (hb hby own_d_jdk_2529_method_15_code_17)
    refine OGo.st qz63 ?_
    show OGo p.tables e below _ (Tj62.setTop (mkF m 18 #[.val (.ref c1), .val (.int (0 : Int32)), .val (.int (5 : Int32)), .val (.int (2 : Int32)), .val (.int (2 : Int32)), .val (.long x5), .second] [(.long (wk 2))]))
    refine OGo.st (fun _ k_ => XS.lstore Xj62.here hx rfl (hb hby own_d_jdk_2529_method_15_code_18) rfl (l' := #[.val (.ref c1), .val (.int (0 : Int32)), .val (.int (5 : Int32)), .val (.int (2 : Int32)), .val (.int (2 : Int32)), .val (.long (wk 2)), .second]) rfl k_) ?_
    show OGo p.tables e below _ (Tj62.setTop (mkF m 20 #[.val (.ref c1), .val (.int (0 : Int32)), .val (.int (5 : Int32)), .val (.int (2 : Int32)), .val (.int (2 : Int32)), .val (.long (wk 2)), .second] []))
    refine OGo.st (fun _ k_ => XS.lload Xj62.here hx rfl (hb hby own_d_jdk_2529_method_15_code_20) rfl k_) ?_
    show OGo p.tables e below _ (Tj62.setTop (mkF m 22 #[.val (.ref c1), .val (.int (0 : Int32)), .val (.int (5 : Int32)), .val (.int (2 : Int32)), .val (.int (2 : Int32)), .val (.long (wk 2)), .second] [(.long (wk 2))]))
    refine OGo.st (fun _ k_ => XS.aloadN Xj62.here hx rfl (hb hby own_d_jdk_2529_method_15_code_22) rfl rfl k_) ?_
    show OGo p.tables e below _ (Tj62.setTop (mkF m 23 #[.val (.ref c1), .val (.int (0 : Int32)), .val (.int (5 : Int32)), .val (.int (2 : Int32)), .val (.int (2 : Int32)), .val (.long (wk 2)), .second] [(.ref c1), (.long (wk 2))]))
    refine OGo.st (fun _ k_ => XS.iloadN Xj62.here hx rfl (hb hby own_d_jdk_2529_method_15_code_23) rfl k_) ?_
    show OGo p.tables e below _ (Tj62.setTop (mkF m 24 #[.val (.ref c1), .val (.int (0 : Int32)), .val (.int (5 : Int32)), .val (.int (2 : Int32)), .val (.int (2 : Int32)), .val (.long (wk 2)), .second] [(.int (2 : Int32)), (.ref c1), (.long (wk 2))]))
    refine OGo.st (fun _ k_ => XS.iconst Xj62.here hx rfl (hb hby own_d_jdk_2529_method_15_code_24) k_) ?_
    show OGo p.tables e below _ (Tj62.setTop (mkF m 25 #[.val (.ref c1), .val (.int (0 : Int32)), .val (.int (5 : Int32)), .val (.int (2 : Int32)), .val (.int (2 : Int32)), .val (.long (wk 2)), .second] [(.int (1 : Int32)), (.int (2 : Int32)), (.ref c1), (.long (wk 2))]))
    refine OGo.st (fun _ k_ => XS.isub Xj62.here hx rfl (hb hby own_d_jdk_2529_method_15_code_25) rfl k_) ?_
    show OGo p.tables e below _ (Tj62.setTop (mkF m 26 #[.val (.ref c1), .val (.int (0 : Int32)), .val (.int (5 : Int32)), .val (.int (2 : Int32)), .val (.int (2 : Int32)), .val (.long (wk 2)), .second] [(.int (1 : Int32)), (.ref c1), (.long (wk 2))]))
    have qz64 := own_ldJ Xj62 hx hZ ej62 f62_0 (j := (1 : Int32)) (v := (wk 1)) (by decide) rfl (g := (mkF m 26 #[.val (.ref c1), .val (.int (0 : Int32)), .val (.int (5 : Int32)), .val (.int (2 : Int32)), .val (.int (2 : Int32)), .val (.long (wk 2)), .second] [(.int (1 : Int32)), (.ref c1), (.long (wk 2))])) rfl rfl (hb hby own_d_jdk_2529_method_15_code_26)
    refine OGo.st qz64 ?_
    show OGo p.tables e below _ (Tj62.setTop (mkF m 27 #[.val (.ref c1), .val (.int (0 : Int32)), .val (.int (5 : Int32)), .val (.int (2 : Int32)), .val (.int (2 : Int32)), .val (.long (wk 2)), .second] [(.long (wk 1)), (.long (wk 2))]))
    by_cases hc27 : (wk 2) < (wk 1)
    · refine OGo.st (fun _ k_ => XT.lcmp Xj62.here hx rfl (hb hby own_d_jdk_2529_method_15_code_27) rfl k_) ?_
      show OGo p.tables e below _ (Tj62.setTop (mkF m 28 #[.val (.ref c1), .val (.int (0 : Int32)), .val (.int (5 : Int32)), .val (.int (2 : Int32)), .val (.int (2 : Int32)), .val (.long (wk 2)), .second] [(.int (XT.cmpL (wk 2) (wk 1)))]))
      refine OGo.st (fun _ k_ => XS.ifNo Xj62.here hx rfl (hb hby own_d_jdk_2529_method_15_code_28) rfl (XT.ll_ge_f hc27) k_) ?_
      show OGo p.tables e below _ (Tj62.setTop (mkF m 31 #[.val (.ref c1), .val (.int (0 : Int32)), .val (.int (5 : Int32)), .val (.int (2 : Int32)), .val (.int (2 : Int32)), .val (.long (wk 2)), .second] []))
      refine OGo.st (fun _ k_ => XS.iinc Xj62.here hx rfl (hb hby own_d_jdk_2529_method_15_code_31) rfl (l' := #[.val (.ref c1), .val (.int (0 : Int32)), .val (.int (5 : Int32)), .val (.int (1 : Int32)), .val (.int (2 : Int32)), .val (.long (wk 2)), .second]) rfl k_) ?_
      show OGo p.tables e below _ (Tj62.setTop (mkF m 34 #[.val (.ref c1), .val (.int (0 : Int32)), .val (.int (5 : Int32)), .val (.int (1 : Int32)), .val (.int (2 : Int32)), .val (.long (wk 2)), .second] []))
      refine OGo.st (fun _ k_ => XS.iloadN Xj62.here hx rfl (hb hby own_d_jdk_2529_method_15_code_34) rfl k_) ?_
      show OGo p.tables e below _ (Tj62.setTop (mkF m 35 #[.val (.ref c1), .val (.int (0 : Int32)), .val (.int (5 : Int32)), .val (.int (1 : Int32)), .val (.int (2 : Int32)), .val (.long (wk 2)), .second] [(.int (1 : Int32))]))
      refine OGo.st (fun _ k_ => XS.iloadN Xj62.here hx rfl (hb hby own_d_jdk_2529_method_15_code_35) rfl k_) ?_
      show OGo p.tables e below _ (Tj62.setTop (mkF m 36 #[.val (.ref c1), .val (.int (0 : Int32)), .val (.int (5 : Int32)), .val (.int (1 : Int32)), .val (.int (2 : Int32)), .val (.long (wk 2)), .second] [(.int (0 : Int32)), (.int (1 : Int32))]))
      refine OGo.st (fun _ k_ => XS.icmpNo Xj62.here hx rfl (hb hby own_d_jdk_2529_method_15_code_36) rfl (XT.ii_lt_f (by decide)) k_) ?_
      show OGo p.tables e below _ (Tj62.setTop (mkF m 39 #[.val (.ref c1), .val (.int (0 : Int32)), .val (.int (5 : Int32)), .val (.int (1 : Int32)), .val (.int (2 : Int32)), .val (.long (wk 2)), .second] []))
      refine OGo.st (fun _ k_ => XS.lload Xj62.here hx rfl (hb hby own_d_jdk_2529_method_15_code_39) rfl k_) ?_
      show OGo p.tables e below _ (Tj62.setTop (mkF m 41 #[.val (.ref c1), .val (.int (0 : Int32)), .val (.int (5 : Int32)), .val (.int (1 : Int32)), .val (.int (2 : Int32)), .val (.long (wk 2)), .second] [(.long (wk 2))]))
      refine OGo.st (fun _ k_ => XS.aloadN Xj62.here hx rfl (hb hby own_d_jdk_2529_method_15_code_41) rfl rfl k_) ?_
      show OGo p.tables e below _ (Tj62.setTop (mkF m 42 #[.val (.ref c1), .val (.int (0 : Int32)), .val (.int (5 : Int32)), .val (.int (1 : Int32)), .val (.int (2 : Int32)), .val (.long (wk 2)), .second] [(.ref c1), (.long (wk 2))]))
      refine OGo.st (fun _ k_ => XS.iloadN Xj62.here hx rfl (hb hby own_d_jdk_2529_method_15_code_42) rfl k_) ?_
      show OGo p.tables e below _ (Tj62.setTop (mkF m 43 #[.val (.ref c1), .val (.int (0 : Int32)), .val (.int (5 : Int32)), .val (.int (1 : Int32)), .val (.int (2 : Int32)), .val (.long (wk 2)), .second] [(.int (1 : Int32)), (.ref c1), (.long (wk 2))]))
      have qz65 := own_ldJ Xj62 hx hZ ej62 f62_0 (j := (1 : Int32)) (v := (wk 1)) (by decide) rfl (g := (mkF m 43 #[.val (.ref c1), .val (.int (0 : Int32)), .val (.int (5 : Int32)), .val (.int (1 : Int32)), .val (.int (2 : Int32)), .val (.long (wk 2)), .second] [(.int (1 : Int32)), (.ref c1), (.long (wk 2))])) rfl rfl (hb hby own_d_jdk_2529_method_15_code_43)
      refine OGo.st qz65 ?_
      show OGo p.tables e below _ (Tj62.setTop (mkF m 44 #[.val (.ref c1), .val (.int (0 : Int32)), .val (.int (5 : Int32)), .val (.int (1 : Int32)), .val (.int (2 : Int32)), .val (.long (wk 2)), .second] [(.long (wk 1)), (.long (wk 2))]))
      refine OGo.st (fun _ k_ => XT.lcmp Xj62.here hx rfl (hb hby own_d_jdk_2529_method_15_code_44) rfl k_) ?_
      show OGo p.tables e below _ (Tj62.setTop (mkF m 45 #[.val (.ref c1), .val (.int (0 : Int32)), .val (.int (5 : Int32)), .val (.int (1 : Int32)), .val (.int (2 : Int32)), .val (.long (wk 2)), .second] [(.int (XT.cmpL (wk 2) (wk 1)))]))
      refine OGo.st (fun _ k_ => XS.ifNo Xj62.here hx rfl (hb hby own_d_jdk_2529_method_15_code_45) rfl (XT.ll_ge_f hc27) k_) ?_
      show OGo p.tables e below _ (Tj62.setTop (mkF m 48 #[.val (.ref c1), .val (.int (0 : Int32)), .val (.int (5 : Int32)), .val (.int (1 : Int32)), .val (.int (2 : Int32)), .val (.long (wk 2)), .second] []))
      refine OGo.st (fun _ k_ => XS.aloadN Xj62.here hx rfl (hb hby own_d_jdk_2529_method_15_code_48) rfl rfl k_) ?_
      show OGo p.tables e below _ (Tj62.setTop (mkF m 49 #[.val (.ref c1), .val (.int (0 : Int32)), .val (.int (5 : Int32)), .val (.int (1 : Int32)), .val (.int (2 : Int32)), .val (.long (wk 2)), .second] [(.ref c1)]))
      refine OGo.st (fun _ k_ => XS.iloadN Xj62.here hx rfl (hb hby own_d_jdk_2529_method_15_code_49) rfl k_) ?_
      show OGo p.tables e below _ (Tj62.setTop (mkF m 50 #[.val (.ref c1), .val (.int (0 : Int32)), .val (.int (5 : Int32)), .val (.int (1 : Int32)), .val (.int (2 : Int32)), .val (.long (wk 2)), .second] [(.int (1 : Int32)), (.ref c1)]))
      refine OGo.st (fun _ k_ => XS.iconst Xj62.here hx rfl (hb hby own_d_jdk_2529_method_15_code_50) k_) ?_
      show OGo p.tables e below _ (Tj62.setTop (mkF m 51 #[.val (.ref c1), .val (.int (0 : Int32)), .val (.int (5 : Int32)), .val (.int (1 : Int32)), .val (.int (2 : Int32)), .val (.long (wk 2)), .second] [(.int (1 : Int32)), (.int (1 : Int32)), (.ref c1)]))
      refine OGo.st (fun _ k_ => XS.iadd Xj62.here hx rfl (hb hby own_d_jdk_2529_method_15_code_51) rfl k_) ?_
      show OGo p.tables e below _ (Tj62.setTop (mkF m 52 #[.val (.ref c1), .val (.int (0 : Int32)), .val (.int (5 : Int32)), .val (.int (1 : Int32)), .val (.int (2 : Int32)), .val (.long (wk 2)), .second] [(.int (2 : Int32)), (.ref c1)]))
      refine OGo.st (fun _ k_ => XS.aloadN Xj62.here hx rfl (hb hby own_d_jdk_2529_method_15_code_52) rfl rfl k_) ?_
      show OGo p.tables e below _ (Tj62.setTop (mkF m 53 #[.val (.ref c1), .val (.int (0 : Int32)), .val (.int (5 : Int32)), .val (.int (1 : Int32)), .val (.int (2 : Int32)), .val (.long (wk 2)), .second] [(.ref c1), (.int (2 : Int32)), (.ref c1)]))
      refine OGo.st (fun _ k_ => XS.iloadN Xj62.here hx rfl (hb hby own_d_jdk_2529_method_15_code_53) rfl k_) ?_
      show OGo p.tables e below _ (Tj62.setTop (mkF m 54 #[.val (.ref c1), .val (.int (0 : Int32)), .val (.int (5 : Int32)), .val (.int (1 : Int32)), .val (.int (2 : Int32)), .val (.long (wk 2)), .second] [(.int (1 : Int32)), (.ref c1), (.int (2 : Int32)), (.ref c1)]))
      have qz66 := own_ldJ Xj62 hx hZ ej62 f62_0 (j := (1 : Int32)) (v := (wk 1)) (by decide) rfl (g := (mkF m 54 #[.val (.ref c1), .val (.int (0 : Int32)), .val (.int (5 : Int32)), .val (.int (1 : Int32)), .val (.int (2 : Int32)), .val (.long (wk 2)), .second] [(.int (1 : Int32)), (.ref c1), (.int (2 : Int32)), (.ref c1)])) rfl rfl (hb hby own_d_jdk_2529_method_15_code_54)
      refine OGo.st qz66 ?_
      show OGo p.tables e below _ (Tj62.setTop (mkF m 55 #[.val (.ref c1), .val (.int (0 : Int32)), .val (.int (5 : Int32)), .val (.int (1 : Int32)), .val (.int (2 : Int32)), .val (.long (wk 2)), .second] [(.long (wk 1)), (.int (2 : Int32)), (.ref c1)]))
      obtain ⟨T67, hz67, X67, ez67, W67, V67, st67⟩ := own_stJ Xj62 hx hZ ej62 f62_0 (j := (2 : Int32)) (by decide)  (g := (mkF m 55 #[.val (.ref c1), .val (.int (0 : Int32)), .val (.int (5 : Int32)), .val (.int (1 : Int32)), .val (.int (2 : Int32)), .val (.long (wk 2)), .second] [(.long (wk 1)), (.int (2 : Int32)), (.ref c1)])) rfl rfl (hb hby own_d_jdk_2529_method_15_code_55)
      have N67 := Fr.snoc X67 Nj62 g_c1
      have K_68 : Keep h0 hz67 [c1] := Kj62.wr W67 (Or.inl (List.mem_of_getElem? (i := 0) rfl))
      refine OGo.st st67 ?_
      show OGo p.tables e below _ (T67.setTop (mkF m 56 #[.val (.ref c1), .val (.int (0 : Int32)), .val (.int (5 : Int32)), .val (.int (1 : Int32)), .val (.int (2 : Int32)), .val (.long (wk 2)), .second] []))
      refine OGo.st (fun _ k_ => XS.goto X67.here hx rfl (pc0 := 56) (pc' := 31) rfl (hb hby own_d_jdk_2529_method_15_code_56) (by decide) (by decide) k_) ?_
      show OGo p.tables e below _ (T67.setTop (mkF m 31 #[.val (.ref c1), .val (.int (0 : Int32)), .val (.int (5 : Int32)), .val (.int (1 : Int32)), .val (.int (2 : Int32)), .val (.long (wk 2)), .second] []))
      refine OGo.st (fun _ k_ => XS.iinc X67.here hx rfl (hb hby own_d_jdk_2529_method_15_code_31) rfl (l' := #[.val (.ref c1), .val (.int (0 : Int32)), .val (.int (5 : Int32)), .val (.int (0 : Int32)), .val (.int (2 : Int32)), .val (.long (wk 2)), .second]) rfl k_) ?_
      show OGo p.tables e below _ (T67.setTop (mkF m 34 #[.val (.ref c1), .val (.int (0 : Int32)), .val (.int (5 : Int32)), .val (.int (0 : Int32)), .val (.int (2 : Int32)), .val (.long (wk 2)), .second] []))
      refine OGo.st (fun _ k_ => XS.iloadN X67.here hx rfl (hb hby own_d_jdk_2529_method_15_code_34) rfl k_) ?_
      show OGo p.tables e below _ (T67.setTop (mkF m 35 #[.val (.ref c1), .val (.int (0 : Int32)), .val (.int (5 : Int32)), .val (.int (0 : Int32)), .val (.int (2 : Int32)), .val (.long (wk 2)), .second] [(.int (0 : Int32))]))
      refine OGo.st (fun _ k_ => XS.iloadN X67.here hx rfl (hb hby own_d_jdk_2529_method_15_code_35) rfl k_) ?_
      show OGo p.tables e below _ (T67.setTop (mkF m 36 #[.val (.ref c1), .val (.int (0 : Int32)), .val (.int (5 : Int32)), .val (.int (0 : Int32)), .val (.int (2 : Int32)), .val (.long (wk 2)), .second] [(.int (0 : Int32)), (.int (0 : Int32))]))
      refine OGo.st (fun _ k_ => XS.icmpNo X67.here hx rfl (hb hby own_d_jdk_2529_method_15_code_36) rfl (XT.ii_lt_f (by decide)) k_) ?_
      show OGo p.tables e below _ (T67.setTop (mkF m 39 #[.val (.ref c1), .val (.int (0 : Int32)), .val (.int (5 : Int32)), .val (.int (0 : Int32)), .val (.int (2 : Int32)), .val (.long (wk 2)), .second] []))
      refine OGo.st (fun _ k_ => XS.lload X67.here hx rfl (hb hby own_d_jdk_2529_method_15_code_39) rfl k_) ?_
      show OGo p.tables e below _ (T67.setTop (mkF m 41 #[.val (.ref c1), .val (.int (0 : Int32)), .val (.int (5 : Int32)), .val (.int (0 : Int32)), .val (.int (2 : Int32)), .val (.long (wk 2)), .second] [(.long (wk 2))]))
      refine OGo.st (fun _ k_ => XS.aloadN X67.here hx rfl (hb hby own_d_jdk_2529_method_15_code_41) rfl rfl k_) ?_
      show OGo p.tables e below _ (T67.setTop (mkF m 42 #[.val (.ref c1), .val (.int (0 : Int32)), .val (.int (5 : Int32)), .val (.int (0 : Int32)), .val (.int (2 : Int32)), .val (.long (wk 2)), .second] [(.ref c1), (.long (wk 2))]))
      refine OGo.st (fun _ k_ => XS.iloadN X67.here hx rfl (hb hby own_d_jdk_2529_method_15_code_42) rfl k_) ?_
      show OGo p.tables e below _ (T67.setTop (mkF m 43 #[.val (.ref c1), .val (.int (0 : Int32)), .val (.int (5 : Int32)), .val (.int (0 : Int32)), .val (.int (2 : Int32)), .val (.long (wk 2)), .second] [(.int (0 : Int32)), (.ref c1), (.long (wk 2))]))
      have qz69 := own_ldJ X67 hx hZ ez67 V67 (j := (0 : Int32)) (v := (wk 0)) (by decide) rfl (g := (mkF m 43 #[.val (.ref c1), .val (.int (0 : Int32)), .val (.int (5 : Int32)), .val (.int (0 : Int32)), .val (.int (2 : Int32)), .val (.long (wk 2)), .second] [(.int (0 : Int32)), (.ref c1), (.long (wk 2))])) rfl rfl (hb hby own_d_jdk_2529_method_15_code_43)
      refine OGo.st qz69 ?_
      show OGo p.tables e below _ (T67.setTop (mkF m 44 #[.val (.ref c1), .val (.int (0 : Int32)), .val (.int (5 : Int32)), .val (.int (0 : Int32)), .val (.int (2 : Int32)), .val (.long (wk 2)), .second] [(.long (wk 0)), (.long (wk 2))]))
      by_cases hc44 : (wk 2) < (wk 0)
      · refine OGo.st (fun _ k_ => XT.lcmp X67.here hx rfl (hb hby own_d_jdk_2529_method_15_code_44) rfl k_) ?_
        show OGo p.tables e below _ (T67.setTop (mkF m 45 #[.val (.ref c1), .val (.int (0 : Int32)), .val (.int (5 : Int32)), .val (.int (0 : Int32)), .val (.int (2 : Int32)), .val (.long (wk 2)), .second] [(.int (XT.cmpL (wk 2) (wk 0)))]))
        refine OGo.st (fun _ k_ => XS.ifNo X67.here hx rfl (hb hby own_d_jdk_2529_method_15_code_45) rfl (XT.ll_ge_f hc44) k_) ?_
        show OGo p.tables e below _ (T67.setTop (mkF m 48 #[.val (.ref c1), .val (.int (0 : Int32)), .val (.int (5 : Int32)), .val (.int (0 : Int32)), .val (.int (2 : Int32)), .val (.long (wk 2)), .second] []))
        refine OGo.st (fun _ k_ => XS.aloadN X67.here hx rfl (hb hby own_d_jdk_2529_method_15_code_48) rfl rfl k_) ?_
        show OGo p.tables e below _ (T67.setTop (mkF m 49 #[.val (.ref c1), .val (.int (0 : Int32)), .val (.int (5 : Int32)), .val (.int (0 : Int32)), .val (.int (2 : Int32)), .val (.long (wk 2)), .second] [(.ref c1)]))
        refine OGo.st (fun _ k_ => XS.iloadN X67.here hx rfl (hb hby own_d_jdk_2529_method_15_code_49) rfl k_) ?_
        show OGo p.tables e below _ (T67.setTop (mkF m 50 #[.val (.ref c1), .val (.int (0 : Int32)), .val (.int (5 : Int32)), .val (.int (0 : Int32)), .val (.int (2 : Int32)), .val (.long (wk 2)), .second] [(.int (0 : Int32)), (.ref c1)]))
        refine OGo.st (fun _ k_ => XS.iconst X67.here hx rfl (hb hby own_d_jdk_2529_method_15_code_50) k_) ?_
        show OGo p.tables e below _ (T67.setTop (mkF m 51 #[.val (.ref c1), .val (.int (0 : Int32)), .val (.int (5 : Int32)), .val (.int (0 : Int32)), .val (.int (2 : Int32)), .val (.long (wk 2)), .second] [(.int (1 : Int32)), (.int (0 : Int32)), (.ref c1)]))
        refine OGo.st (fun _ k_ => XS.iadd X67.here hx rfl (hb hby own_d_jdk_2529_method_15_code_51) rfl k_) ?_
        show OGo p.tables e below _ (T67.setTop (mkF m 52 #[.val (.ref c1), .val (.int (0 : Int32)), .val (.int (5 : Int32)), .val (.int (0 : Int32)), .val (.int (2 : Int32)), .val (.long (wk 2)), .second] [(.int (1 : Int32)), (.ref c1)]))
        refine OGo.st (fun _ k_ => XS.aloadN X67.here hx rfl (hb hby own_d_jdk_2529_method_15_code_52) rfl rfl k_) ?_
        show OGo p.tables e below _ (T67.setTop (mkF m 53 #[.val (.ref c1), .val (.int (0 : Int32)), .val (.int (5 : Int32)), .val (.int (0 : Int32)), .val (.int (2 : Int32)), .val (.long (wk 2)), .second] [(.ref c1), (.int (1 : Int32)), (.ref c1)]))
        refine OGo.st (fun _ k_ => XS.iloadN X67.here hx rfl (hb hby own_d_jdk_2529_method_15_code_53) rfl k_) ?_
        show OGo p.tables e below _ (T67.setTop (mkF m 54 #[.val (.ref c1), .val (.int (0 : Int32)), .val (.int (5 : Int32)), .val (.int (0 : Int32)), .val (.int (2 : Int32)), .val (.long (wk 2)), .second] [(.int (0 : Int32)), (.ref c1), (.int (1 : Int32)), (.ref c1)]))
        have qz70 := own_ldJ X67 hx hZ ez67 V67 (j := (0 : Int32)) (v := (wk 0)) (by decide) rfl (g := (mkF m 54 #[.val (.ref c1), .val (.int (0 : Int32)), .val (.int (5 : Int32)), .val (.int (0 : Int32)), .val (.int (2 : Int32)), .val (.long (wk 2)), .second] [(.int (0 : Int32)), (.ref c1), (.int (1 : Int32)), (.ref c1)])) rfl rfl (hb hby own_d_jdk_2529_method_15_code_54)
        refine OGo.st qz70 ?_
        show OGo p.tables e below _ (T67.setTop (mkF m 55 #[.val (.ref c1), .val (.int (0 : Int32)), .val (.int (5 : Int32)), .val (.int (0 : Int32)), .val (.int (2 : Int32)), .val (.long (wk 2)), .second] [(.long (wk 0)), (.int (1 : Int32)), (.ref c1)]))
        obtain ⟨T71, hz71, X71, ez71, W71, V71, st71⟩ := own_stJ X67 hx hZ ez67 V67 (j := (1 : Int32)) (by decide)  (g := (mkF m 55 #[.val (.ref c1), .val (.int (0 : Int32)), .val (.int (5 : Int32)), .val (.int (0 : Int32)), .val (.int (2 : Int32)), .val (.long (wk 2)), .second] [(.long (wk 0)), (.int (1 : Int32)), (.ref c1)])) rfl rfl (hb hby own_d_jdk_2529_method_15_code_55)
        have N71 := Fr.snoc X71 N67 g_c1
        have K_72 : Keep h0 hz71 [c1] := K_68.wr W71 (Or.inl (List.mem_of_getElem? (i := 0) rfl))
        refine OGo.st st71 ?_
        show OGo p.tables e below _ (T71.setTop (mkF m 56 #[.val (.ref c1), .val (.int (0 : Int32)), .val (.int (5 : Int32)), .val (.int (0 : Int32)), .val (.int (2 : Int32)), .val (.long (wk 2)), .second] []))
        refine OGo.st (fun _ k_ => XS.goto X71.here hx rfl (pc0 := 56) (pc' := 31) rfl (hb hby own_d_jdk_2529_method_15_code_56) (by decide) (by decide) k_) ?_
        show OGo p.tables e below _ (T71.setTop (mkF m 31 #[.val (.ref c1), .val (.int (0 : Int32)), .val (.int (5 : Int32)), .val (.int (0 : Int32)), .val (.int (2 : Int32)), .val (.long (wk 2)), .second] []))
        refine OGo.st (fun _ k_ => XS.iinc X71.here hx rfl (hb hby own_d_jdk_2529_method_15_code_31) rfl (l' := #[.val (.ref c1), .val (.int (0 : Int32)), .val (.int (5 : Int32)), .val (.int (-1 : Int32)), .val (.int (2 : Int32)), .val (.long (wk 2)), .second]) rfl k_) ?_
        show OGo p.tables e below _ (T71.setTop (mkF m 34 #[.val (.ref c1), .val (.int (0 : Int32)), .val (.int (5 : Int32)), .val (.int (-1 : Int32)), .val (.int (2 : Int32)), .val (.long (wk 2)), .second] []))
        refine OGo.st (fun _ k_ => XS.iloadN X71.here hx rfl (hb hby own_d_jdk_2529_method_15_code_34) rfl k_) ?_
        show OGo p.tables e below _ (T71.setTop (mkF m 35 #[.val (.ref c1), .val (.int (0 : Int32)), .val (.int (5 : Int32)), .val (.int (-1 : Int32)), .val (.int (2 : Int32)), .val (.long (wk 2)), .second] [(.int (-1 : Int32))]))
        refine OGo.st (fun _ k_ => XS.iloadN X71.here hx rfl (hb hby own_d_jdk_2529_method_15_code_35) rfl k_) ?_
        show OGo p.tables e below _ (T71.setTop (mkF m 36 #[.val (.ref c1), .val (.int (0 : Int32)), .val (.int (5 : Int32)), .val (.int (-1 : Int32)), .val (.int (2 : Int32)), .val (.long (wk 2)), .second] [(.int (0 : Int32)), (.int (-1 : Int32))]))
        refine OGo.st (fun _ k_ => XS.icmpYes X71.here hx rfl (pc0 := 36) (pc' := 59) rfl (hb hby own_d_jdk_2529_method_15_code_36) rfl (XT.ii_lt_t (by decide)) (by decide) (by decide) k_) ?_
        show OGo p.tables e below _ (T71.setTop (mkF m 59 #[.val (.ref c1), .val (.int (0 : Int32)), .val (.int (5 : Int32)), .val (.int (-1 : Int32)), .val (.int (2 : Int32)), .val (.long (wk 2)), .second] []))
        refine OGo.st (fun _ k_ => XS.aloadN X71.here hx rfl (hb hby own_d_jdk_2529_method_15_code_59) rfl rfl k_) ?_
        show OGo p.tables e below _ (T71.setTop (mkF m 60 #[.val (.ref c1), .val (.int (0 : Int32)), .val (.int (5 : Int32)), .val (.int (-1 : Int32)), .val (.int (2 : Int32)), .val (.long (wk 2)), .second] [(.ref c1)]))
        refine OGo.st (fun _ k_ => XS.iloadN X71.here hx rfl (hb hby own_d_jdk_2529_method_15_code_60) rfl k_) ?_
        show OGo p.tables e below _ (T71.setTop (mkF m 61 #[.val (.ref c1), .val (.int (0 : Int32)), .val (.int (5 : Int32)), .val (.int (-1 : Int32)), .val (.int (2 : Int32)), .val (.long (wk 2)), .second] [(.int (-1 : Int32)), (.ref c1)]))
        refine OGo.st (fun _ k_ => XS.iconst X71.here hx rfl (hb hby own_d_jdk_2529_method_15_code_61) k_) ?_
        show OGo p.tables e below _ (T71.setTop (mkF m 62 #[.val (.ref c1), .val (.int (0 : Int32)), .val (.int (5 : Int32)), .val (.int (-1 : Int32)), .val (.int (2 : Int32)), .val (.long (wk 2)), .second] [(.int (1 : Int32)), (.int (-1 : Int32)), (.ref c1)]))
        refine OGo.st (fun _ k_ => XS.iadd X71.here hx rfl (hb hby own_d_jdk_2529_method_15_code_62) rfl k_) ?_
        show OGo p.tables e below _ (T71.setTop (mkF m 63 #[.val (.ref c1), .val (.int (0 : Int32)), .val (.int (5 : Int32)), .val (.int (-1 : Int32)), .val (.int (2 : Int32)), .val (.long (wk 2)), .second] [(.int (0 : Int32)), (.ref c1)]))
        refine OGo.st (fun _ k_ => XS.lload X71.here hx rfl (hb hby own_d_jdk_2529_method_15_code_63) rfl k_) ?_
        show OGo p.tables e below _ (T71.setTop (mkF m 65 #[.val (.ref c1), .val (.int (0 : Int32)), .val (.int (5 : Int32)), .val (.int (-1 : Int32)), .val (.int (2 : Int32)), .val (.long (wk 2)), .second] [(.long (wk 2)), (.int (0 : Int32)), (.ref c1)]))
        obtain ⟨T73, hz73, X73, ez73, W73, V73, st73⟩ := own_stJ X71 hx hZ ez71 V71 (j := (0 : Int32)) (by decide)  (g := (mkF m 65 #[.val (.ref c1), .val (.int (0 : Int32)), .val (.int (5 : Int32)), .val (.int (-1 : Int32)), .val (.int (2 : Int32)), .val (.long (wk 2)), .second] [(.long (wk 2)), (.int (0 : Int32)), (.ref c1)])) rfl rfl (hb hby own_d_jdk_2529_method_15_code_65)
        have N73 := Fr.snoc X73 N71 g_c1
        have K_74 : Keep h0 hz73 [c1] := K_72.wr W73 (Or.inl (List.mem_of_getElem? (i := 0) rfl))
        refine OGo.st st73 ?_
        show OGo p.tables e below _ (T73.setTop (mkF m 66 #[.val (.ref c1), .val (.int (0 : Int32)), .val (.int (5 : Int32)), .val (.int (-1 : Int32)), .val (.int (2 : Int32)), .val (.long (wk 2)), .second] []))
        refine OGo.st (fun _ k_ => XS.goto X73.here hx rfl (pc0 := 66) (pc' := 3) rfl (hb hby own_d_jdk_2529_method_15_code_66) (by decide) (by decide) k_) ?_
        have Af_75 : Arf Z hz73 c1 k1 .long 5 (own_L (own_ins wk 2 0)) := V73.congr (fun i hi => match i, hi with | 0, _ => rfl | 1, _ => rfl | 2, _ => rfl | 3, _ => rfl | 4, _ => rfl | (n_ + 5), q_ => absurd q_ (by show ¬ n_ + 5 < 5; omega))
        exact J2 T73 _ hz73 (-1 : Int32) (wk 2) (own_ins wk 2 0) X73 ez73 N73 K_74 Af_75 (own_step (k := 1) (p := 0) hI (by decide) (by decide) (fun _ => hc44) (fun q => absurd q (by decide)))
      · refine OGo.st (fun _ k_ => XT.lcmp X67.here hx rfl (hb hby own_d_jdk_2529_method_15_code_44) rfl k_) ?_
        show OGo p.tables e below _ (T67.setTop (mkF m 45 #[.val (.ref c1), .val (.int (0 : Int32)), .val (.int (5 : Int32)), .val (.int (0 : Int32)), .val (.int (2 : Int32)), .val (.long (wk 2)), .second] [(.int (XT.cmpL (wk 2) (wk 0)))]))
        refine OGo.st (fun _ k_ => XS.ifYes X67.here hx rfl (pc0 := 45) (pc' := 59) rfl (hb hby own_d_jdk_2529_method_15_code_45) rfl (XT.ll_ge_t hc44) (by decide) (by decide) k_) ?_
        show OGo p.tables e below _ (T67.setTop (mkF m 59 #[.val (.ref c1), .val (.int (0 : Int32)), .val (.int (5 : Int32)), .val (.int (0 : Int32)), .val (.int (2 : Int32)), .val (.long (wk 2)), .second] []))
        refine OGo.st (fun _ k_ => XS.aloadN X67.here hx rfl (hb hby own_d_jdk_2529_method_15_code_59) rfl rfl k_) ?_
        show OGo p.tables e below _ (T67.setTop (mkF m 60 #[.val (.ref c1), .val (.int (0 : Int32)), .val (.int (5 : Int32)), .val (.int (0 : Int32)), .val (.int (2 : Int32)), .val (.long (wk 2)), .second] [(.ref c1)]))
        refine OGo.st (fun _ k_ => XS.iloadN X67.here hx rfl (hb hby own_d_jdk_2529_method_15_code_60) rfl k_) ?_
        show OGo p.tables e below _ (T67.setTop (mkF m 61 #[.val (.ref c1), .val (.int (0 : Int32)), .val (.int (5 : Int32)), .val (.int (0 : Int32)), .val (.int (2 : Int32)), .val (.long (wk 2)), .second] [(.int (0 : Int32)), (.ref c1)]))
        refine OGo.st (fun _ k_ => XS.iconst X67.here hx rfl (hb hby own_d_jdk_2529_method_15_code_61) k_) ?_
        show OGo p.tables e below _ (T67.setTop (mkF m 62 #[.val (.ref c1), .val (.int (0 : Int32)), .val (.int (5 : Int32)), .val (.int (0 : Int32)), .val (.int (2 : Int32)), .val (.long (wk 2)), .second] [(.int (1 : Int32)), (.int (0 : Int32)), (.ref c1)]))
        refine OGo.st (fun _ k_ => XS.iadd X67.here hx rfl (hb hby own_d_jdk_2529_method_15_code_62) rfl k_) ?_
        show OGo p.tables e below _ (T67.setTop (mkF m 63 #[.val (.ref c1), .val (.int (0 : Int32)), .val (.int (5 : Int32)), .val (.int (0 : Int32)), .val (.int (2 : Int32)), .val (.long (wk 2)), .second] [(.int (1 : Int32)), (.ref c1)]))
        refine OGo.st (fun _ k_ => XS.lload X67.here hx rfl (hb hby own_d_jdk_2529_method_15_code_63) rfl k_) ?_
        show OGo p.tables e below _ (T67.setTop (mkF m 65 #[.val (.ref c1), .val (.int (0 : Int32)), .val (.int (5 : Int32)), .val (.int (0 : Int32)), .val (.int (2 : Int32)), .val (.long (wk 2)), .second] [(.long (wk 2)), (.int (1 : Int32)), (.ref c1)]))
        obtain ⟨T76, hz76, X76, ez76, W76, V76, st76⟩ := own_stJ X67 hx hZ ez67 V67 (j := (1 : Int32)) (by decide)  (g := (mkF m 65 #[.val (.ref c1), .val (.int (0 : Int32)), .val (.int (5 : Int32)), .val (.int (0 : Int32)), .val (.int (2 : Int32)), .val (.long (wk 2)), .second] [(.long (wk 2)), (.int (1 : Int32)), (.ref c1)])) rfl rfl (hb hby own_d_jdk_2529_method_15_code_65)
        have N76 := Fr.snoc X76 N67 g_c1
        have K_77 : Keep h0 hz76 [c1] := K_68.wr W76 (Or.inl (List.mem_of_getElem? (i := 0) rfl))
        refine OGo.st st76 ?_
        show OGo p.tables e below _ (T76.setTop (mkF m 66 #[.val (.ref c1), .val (.int (0 : Int32)), .val (.int (5 : Int32)), .val (.int (0 : Int32)), .val (.int (2 : Int32)), .val (.long (wk 2)), .second] []))
        refine OGo.st (fun _ k_ => XS.goto X76.here hx rfl (pc0 := 66) (pc' := 3) rfl (hb hby own_d_jdk_2529_method_15_code_66) (by decide) (by decide) k_) ?_
        have Af_78 : Arf Z hz76 c1 k1 .long 5 (own_L (own_ins wk 2 1)) := V76.congr (fun i hi => match i, hi with | 0, _ => rfl | 1, _ => rfl | 2, _ => rfl | 3, _ => rfl | 4, _ => rfl | (n_ + 5), q_ => absurd q_ (by show ¬ n_ + 5 < 5; omega))
        exact J2 T76 _ hz76 (0 : Int32) (wk 2) (own_ins wk 2 1) X76 ez76 N76 K_77 Af_78 (own_step (k := 1) (p := 1) hI (by decide) (by decide) (fun _ => hc27) (fun _ => hc44))
    · refine OGo.st (fun _ k_ => XT.lcmp Xj62.here hx rfl (hb hby own_d_jdk_2529_method_15_code_27) rfl k_) ?_
      show OGo p.tables e below _ (Tj62.setTop (mkF m 28 #[.val (.ref c1), .val (.int (0 : Int32)), .val (.int (5 : Int32)), .val (.int (2 : Int32)), .val (.int (2 : Int32)), .val (.long (wk 2)), .second] [(.int (XT.cmpL (wk 2) (wk 1)))]))
      refine OGo.st (fun _ k_ => XS.ifYes Xj62.here hx rfl (pc0 := 28) (pc' := 66) rfl (hb hby own_d_jdk_2529_method_15_code_28) rfl (XT.ll_ge_t hc27) (by decide) (by decide) k_) ?_
      show OGo p.tables e below _ (Tj62.setTop (mkF m 66 #[.val (.ref c1), .val (.int (0 : Int32)), .val (.int (5 : Int32)), .val (.int (2 : Int32)), .val (.int (2 : Int32)), .val (.long (wk 2)), .second] []))
      refine OGo.st (fun _ k_ => XS.goto Xj62.here hx rfl (pc0 := 66) (pc' := 3) rfl (hb hby own_d_jdk_2529_method_15_code_66) (by decide) (by decide) k_) ?_
      have Af_79 : Arf Z hj62 c1 k1 .long 5 (own_L (own_ins wk 2 2)) := f62_0.congr (fun i hi => match i, hi with | 0, _ => rfl | 1, _ => rfl | 2, _ => rfl | 3, _ => rfl | 4, _ => rfl | (n_ + 5), q_ => absurd q_ (by show ¬ n_ + 5 < 5; omega))
      exact J2 Tj62 _ hj62 (2 : Int32) (wk 2) (own_ins wk 2 2) Xj62 ej62 Nj62 Kj62 Af_79 (own_step (k := 1) (p := 2) hI (by decide) (by decide) (fun q => absurd q (by decide)) (fun _ => hc27))
  have hI0 : own_I 0 w w := ⟨fun i hi => absurd hi (by omega), fun _ => rfl⟩
  show OGo p.tables e below _ (s₁.setTop (mkF m 3 #[.val (.ref c1), .val (.int (0 : Int32)), .val (.int (5 : Int32)), .unset, .val (.int (0 : Int32)), .unset, .unset] []))
  refine OGo.st (fun _ k_ => XS.iinc X0.here hx rfl (hb hby own_d_jdk_2529_method_15_code_3) rfl (l' := #[.val (.ref c1), .val (.int (0 : Int32)), .val (.int (5 : Int32)), .unset, .val (.int (1 : Int32)), .unset, .unset]) rfl k_) ?_
  show OGo p.tables e below _ (s₁.setTop (mkF m 6 #[.val (.ref c1), .val (.int (0 : Int32)), .val (.int (5 : Int32)), .unset, .val (.int (1 : Int32)), .unset, .unset] []))
  refine OGo.st (fun _ k_ => XS.iload X0.here hx rfl (hb hby own_d_jdk_2529_method_15_code_6) rfl k_) ?_
  show OGo p.tables e below _ (s₁.setTop (mkF m 8 #[.val (.ref c1), .val (.int (0 : Int32)), .val (.int (5 : Int32)), .unset, .val (.int (1 : Int32)), .unset, .unset] [(.int (1 : Int32))]))
  refine OGo.st (fun _ k_ => XS.iloadN X0.here hx rfl (hb hby own_d_jdk_2529_method_15_code_8) rfl k_) ?_
  show OGo p.tables e below _ (s₁.setTop (mkF m 9 #[.val (.ref c1), .val (.int (0 : Int32)), .val (.int (5 : Int32)), .unset, .val (.int (1 : Int32)), .unset, .unset] [(.int (5 : Int32)), (.int (1 : Int32))]))
  refine OGo.st (fun _ k_ => XS.icmpNo X0.here hx rfl (hb hby own_d_jdk_2529_method_15_code_9) rfl (XT.ii_ge_f (by decide)) k_) ?_
  show OGo p.tables e below _ (s₁.setTop (mkF m 12 #[.val (.ref c1), .val (.int (0 : Int32)), .val (.int (5 : Int32)), .unset, .val (.int (1 : Int32)), .unset, .unset] []))
  refine OGo.st (fun _ k_ => XS.aloadN X0.here hx rfl (hb hby own_d_jdk_2529_method_15_code_12) rfl rfl k_) ?_
  show OGo p.tables e below _ (s₁.setTop (mkF m 13 #[.val (.ref c1), .val (.int (0 : Int32)), .val (.int (5 : Int32)), .unset, .val (.int (1 : Int32)), .unset, .unset] [(.ref c1)]))
  refine OGo.st (fun _ k_ => XS.iload X0.here hx rfl (hb hby own_d_jdk_2529_method_15_code_13) rfl k_) ?_
  show OGo p.tables e below _ (s₁.setTop (mkF m 15 #[.val (.ref c1), .val (.int (0 : Int32)), .val (.int (5 : Int32)), .unset, .val (.int (1 : Int32)), .unset, .unset] [(.int (1 : Int32)), (.ref c1)]))
  refine OGo.st (fun _ k_ => XS.dup X0.here hx rfl (hb hby own_d_jdk_2529_method_15_code_15) rfl rfl k_) ?_
  show OGo p.tables e below _ (s₁.setTop (mkF m 16 #[.val (.ref c1), .val (.int (0 : Int32)), .val (.int (5 : Int32)), .unset, .val (.int (1 : Int32)), .unset, .unset] [(.int (1 : Int32)), (.int (1 : Int32)), (.ref c1)]))
  refine OGo.st (fun _ k_ => XS.istoreN X0.here hx rfl (hb hby own_d_jdk_2529_method_15_code_16) rfl (l' := #[.val (.ref c1), .val (.int (0 : Int32)), .val (.int (5 : Int32)), .val (.int (1 : Int32)), .val (.int (1 : Int32)), .unset, .unset]) rfl k_) ?_
  show OGo p.tables e below _ (s₁.setTop (mkF m 17 #[.val (.ref c1), .val (.int (0 : Int32)), .val (.int (5 : Int32)), .val (.int (1 : Int32)), .val (.int (1 : Int32)), .unset, .unset] [(.int (1 : Int32)), (.ref c1)]))
  have qz80 := own_ldJ X0 hx hZ e0 A_c1 (j := (1 : Int32)) (v := (w 1)) (by decide) rfl (g := (mkF m 17 #[.val (.ref c1), .val (.int (0 : Int32)), .val (.int (5 : Int32)), .val (.int (1 : Int32)), .val (.int (1 : Int32)), .unset, .unset] [(.int (1 : Int32)), (.ref c1)])) rfl rfl (hb hby own_d_jdk_2529_method_15_code_17)
  refine OGo.st qz80 ?_
  show OGo p.tables e below _ (s₁.setTop (mkF m 18 #[.val (.ref c1), .val (.int (0 : Int32)), .val (.int (5 : Int32)), .val (.int (1 : Int32)), .val (.int (1 : Int32)), .unset, .unset] [(.long (w 1))]))
  refine OGo.st (fun _ k_ => XS.lstore X0.here hx rfl (hb hby own_d_jdk_2529_method_15_code_18) rfl (l' := #[.val (.ref c1), .val (.int (0 : Int32)), .val (.int (5 : Int32)), .val (.int (1 : Int32)), .val (.int (1 : Int32)), .val (.long (w 1)), .second]) rfl k_) ?_
  show OGo p.tables e below _ (s₁.setTop (mkF m 20 #[.val (.ref c1), .val (.int (0 : Int32)), .val (.int (5 : Int32)), .val (.int (1 : Int32)), .val (.int (1 : Int32)), .val (.long (w 1)), .second] []))
  refine OGo.st (fun _ k_ => XS.lload X0.here hx rfl (hb hby own_d_jdk_2529_method_15_code_20) rfl k_) ?_
  show OGo p.tables e below _ (s₁.setTop (mkF m 22 #[.val (.ref c1), .val (.int (0 : Int32)), .val (.int (5 : Int32)), .val (.int (1 : Int32)), .val (.int (1 : Int32)), .val (.long (w 1)), .second] [(.long (w 1))]))
  refine OGo.st (fun _ k_ => XS.aloadN X0.here hx rfl (hb hby own_d_jdk_2529_method_15_code_22) rfl rfl k_) ?_
  show OGo p.tables e below _ (s₁.setTop (mkF m 23 #[.val (.ref c1), .val (.int (0 : Int32)), .val (.int (5 : Int32)), .val (.int (1 : Int32)), .val (.int (1 : Int32)), .val (.long (w 1)), .second] [(.ref c1), (.long (w 1))]))
  refine OGo.st (fun _ k_ => XS.iloadN X0.here hx rfl (hb hby own_d_jdk_2529_method_15_code_23) rfl k_) ?_
  show OGo p.tables e below _ (s₁.setTop (mkF m 24 #[.val (.ref c1), .val (.int (0 : Int32)), .val (.int (5 : Int32)), .val (.int (1 : Int32)), .val (.int (1 : Int32)), .val (.long (w 1)), .second] [(.int (1 : Int32)), (.ref c1), (.long (w 1))]))
  refine OGo.st (fun _ k_ => XS.iconst X0.here hx rfl (hb hby own_d_jdk_2529_method_15_code_24) k_) ?_
  show OGo p.tables e below _ (s₁.setTop (mkF m 25 #[.val (.ref c1), .val (.int (0 : Int32)), .val (.int (5 : Int32)), .val (.int (1 : Int32)), .val (.int (1 : Int32)), .val (.long (w 1)), .second] [(.int (1 : Int32)), (.int (1 : Int32)), (.ref c1), (.long (w 1))]))
  refine OGo.st (fun _ k_ => XS.isub X0.here hx rfl (hb hby own_d_jdk_2529_method_15_code_25) rfl k_) ?_
  show OGo p.tables e below _ (s₁.setTop (mkF m 26 #[.val (.ref c1), .val (.int (0 : Int32)), .val (.int (5 : Int32)), .val (.int (1 : Int32)), .val (.int (1 : Int32)), .val (.long (w 1)), .second] [(.int (0 : Int32)), (.ref c1), (.long (w 1))]))
  have qz81 := own_ldJ X0 hx hZ e0 A_c1 (j := (0 : Int32)) (v := (w 0)) (by decide) rfl (g := (mkF m 26 #[.val (.ref c1), .val (.int (0 : Int32)), .val (.int (5 : Int32)), .val (.int (1 : Int32)), .val (.int (1 : Int32)), .val (.long (w 1)), .second] [(.int (0 : Int32)), (.ref c1), (.long (w 1))])) rfl rfl (hb hby own_d_jdk_2529_method_15_code_26)
  refine OGo.st qz81 ?_
  show OGo p.tables e below _ (s₁.setTop (mkF m 27 #[.val (.ref c1), .val (.int (0 : Int32)), .val (.int (5 : Int32)), .val (.int (1 : Int32)), .val (.int (1 : Int32)), .val (.long (w 1)), .second] [(.long (w 0)), (.long (w 1))]))
  by_cases hc27 : (w 1) < (w 0)
  · refine OGo.st (fun _ k_ => XT.lcmp X0.here hx rfl (hb hby own_d_jdk_2529_method_15_code_27) rfl k_) ?_
    show OGo p.tables e below _ (s₁.setTop (mkF m 28 #[.val (.ref c1), .val (.int (0 : Int32)), .val (.int (5 : Int32)), .val (.int (1 : Int32)), .val (.int (1 : Int32)), .val (.long (w 1)), .second] [(.int (XT.cmpL (w 1) (w 0)))]))
    refine OGo.st (fun _ k_ => XS.ifNo X0.here hx rfl (hb hby own_d_jdk_2529_method_15_code_28) rfl (XT.ll_ge_f hc27) k_) ?_
    show OGo p.tables e below _ (s₁.setTop (mkF m 31 #[.val (.ref c1), .val (.int (0 : Int32)), .val (.int (5 : Int32)), .val (.int (1 : Int32)), .val (.int (1 : Int32)), .val (.long (w 1)), .second] []))
    refine OGo.st (fun _ k_ => XS.iinc X0.here hx rfl (hb hby own_d_jdk_2529_method_15_code_31) rfl (l' := #[.val (.ref c1), .val (.int (0 : Int32)), .val (.int (5 : Int32)), .val (.int (0 : Int32)), .val (.int (1 : Int32)), .val (.long (w 1)), .second]) rfl k_) ?_
    show OGo p.tables e below _ (s₁.setTop (mkF m 34 #[.val (.ref c1), .val (.int (0 : Int32)), .val (.int (5 : Int32)), .val (.int (0 : Int32)), .val (.int (1 : Int32)), .val (.long (w 1)), .second] []))
    refine OGo.st (fun _ k_ => XS.iloadN X0.here hx rfl (hb hby own_d_jdk_2529_method_15_code_34) rfl k_) ?_
    show OGo p.tables e below _ (s₁.setTop (mkF m 35 #[.val (.ref c1), .val (.int (0 : Int32)), .val (.int (5 : Int32)), .val (.int (0 : Int32)), .val (.int (1 : Int32)), .val (.long (w 1)), .second] [(.int (0 : Int32))]))
    refine OGo.st (fun _ k_ => XS.iloadN X0.here hx rfl (hb hby own_d_jdk_2529_method_15_code_35) rfl k_) ?_
    show OGo p.tables e below _ (s₁.setTop (mkF m 36 #[.val (.ref c1), .val (.int (0 : Int32)), .val (.int (5 : Int32)), .val (.int (0 : Int32)), .val (.int (1 : Int32)), .val (.long (w 1)), .second] [(.int (0 : Int32)), (.int (0 : Int32))]))
    refine OGo.st (fun _ k_ => XS.icmpNo X0.here hx rfl (hb hby own_d_jdk_2529_method_15_code_36) rfl (XT.ii_lt_f (by decide)) k_) ?_
    show OGo p.tables e below _ (s₁.setTop (mkF m 39 #[.val (.ref c1), .val (.int (0 : Int32)), .val (.int (5 : Int32)), .val (.int (0 : Int32)), .val (.int (1 : Int32)), .val (.long (w 1)), .second] []))
    refine OGo.st (fun _ k_ => XS.lload X0.here hx rfl (hb hby own_d_jdk_2529_method_15_code_39) rfl k_) ?_
    show OGo p.tables e below _ (s₁.setTop (mkF m 41 #[.val (.ref c1), .val (.int (0 : Int32)), .val (.int (5 : Int32)), .val (.int (0 : Int32)), .val (.int (1 : Int32)), .val (.long (w 1)), .second] [(.long (w 1))]))
    refine OGo.st (fun _ k_ => XS.aloadN X0.here hx rfl (hb hby own_d_jdk_2529_method_15_code_41) rfl rfl k_) ?_
    show OGo p.tables e below _ (s₁.setTop (mkF m 42 #[.val (.ref c1), .val (.int (0 : Int32)), .val (.int (5 : Int32)), .val (.int (0 : Int32)), .val (.int (1 : Int32)), .val (.long (w 1)), .second] [(.ref c1), (.long (w 1))]))
    refine OGo.st (fun _ k_ => XS.iloadN X0.here hx rfl (hb hby own_d_jdk_2529_method_15_code_42) rfl k_) ?_
    show OGo p.tables e below _ (s₁.setTop (mkF m 43 #[.val (.ref c1), .val (.int (0 : Int32)), .val (.int (5 : Int32)), .val (.int (0 : Int32)), .val (.int (1 : Int32)), .val (.long (w 1)), .second] [(.int (0 : Int32)), (.ref c1), (.long (w 1))]))
    have qz82 := own_ldJ X0 hx hZ e0 A_c1 (j := (0 : Int32)) (v := (w 0)) (by decide) rfl (g := (mkF m 43 #[.val (.ref c1), .val (.int (0 : Int32)), .val (.int (5 : Int32)), .val (.int (0 : Int32)), .val (.int (1 : Int32)), .val (.long (w 1)), .second] [(.int (0 : Int32)), (.ref c1), (.long (w 1))])) rfl rfl (hb hby own_d_jdk_2529_method_15_code_43)
    refine OGo.st qz82 ?_
    show OGo p.tables e below _ (s₁.setTop (mkF m 44 #[.val (.ref c1), .val (.int (0 : Int32)), .val (.int (5 : Int32)), .val (.int (0 : Int32)), .val (.int (1 : Int32)), .val (.long (w 1)), .second] [(.long (w 0)), (.long (w 1))]))
    refine OGo.st (fun _ k_ => XT.lcmp X0.here hx rfl (hb hby own_d_jdk_2529_method_15_code_44) rfl k_) ?_
    show OGo p.tables e below _ (s₁.setTop (mkF m 45 #[.val (.ref c1), .val (.int (0 : Int32)), .val (.int (5 : Int32)), .val (.int (0 : Int32)), .val (.int (1 : Int32)), .val (.long (w 1)), .second] [(.int (XT.cmpL (w 1) (w 0)))]))
    refine OGo.st (fun _ k_ => XS.ifNo X0.here hx rfl (hb hby own_d_jdk_2529_method_15_code_45) rfl (XT.ll_ge_f hc27) k_) ?_
    show OGo p.tables e below _ (s₁.setTop (mkF m 48 #[.val (.ref c1), .val (.int (0 : Int32)), .val (.int (5 : Int32)), .val (.int (0 : Int32)), .val (.int (1 : Int32)), .val (.long (w 1)), .second] []))
    refine OGo.st (fun _ k_ => XS.aloadN X0.here hx rfl (hb hby own_d_jdk_2529_method_15_code_48) rfl rfl k_) ?_
    show OGo p.tables e below _ (s₁.setTop (mkF m 49 #[.val (.ref c1), .val (.int (0 : Int32)), .val (.int (5 : Int32)), .val (.int (0 : Int32)), .val (.int (1 : Int32)), .val (.long (w 1)), .second] [(.ref c1)]))
    refine OGo.st (fun _ k_ => XS.iloadN X0.here hx rfl (hb hby own_d_jdk_2529_method_15_code_49) rfl k_) ?_
    show OGo p.tables e below _ (s₁.setTop (mkF m 50 #[.val (.ref c1), .val (.int (0 : Int32)), .val (.int (5 : Int32)), .val (.int (0 : Int32)), .val (.int (1 : Int32)), .val (.long (w 1)), .second] [(.int (0 : Int32)), (.ref c1)]))
    refine OGo.st (fun _ k_ => XS.iconst X0.here hx rfl (hb hby own_d_jdk_2529_method_15_code_50) k_) ?_
    show OGo p.tables e below _ (s₁.setTop (mkF m 51 #[.val (.ref c1), .val (.int (0 : Int32)), .val (.int (5 : Int32)), .val (.int (0 : Int32)), .val (.int (1 : Int32)), .val (.long (w 1)), .second] [(.int (1 : Int32)), (.int (0 : Int32)), (.ref c1)]))
    refine OGo.st (fun _ k_ => XS.iadd X0.here hx rfl (hb hby own_d_jdk_2529_method_15_code_51) rfl k_) ?_
    show OGo p.tables e below _ (s₁.setTop (mkF m 52 #[.val (.ref c1), .val (.int (0 : Int32)), .val (.int (5 : Int32)), .val (.int (0 : Int32)), .val (.int (1 : Int32)), .val (.long (w 1)), .second] [(.int (1 : Int32)), (.ref c1)]))
    refine OGo.st (fun _ k_ => XS.aloadN X0.here hx rfl (hb hby own_d_jdk_2529_method_15_code_52) rfl rfl k_) ?_
    show OGo p.tables e below _ (s₁.setTop (mkF m 53 #[.val (.ref c1), .val (.int (0 : Int32)), .val (.int (5 : Int32)), .val (.int (0 : Int32)), .val (.int (1 : Int32)), .val (.long (w 1)), .second] [(.ref c1), (.int (1 : Int32)), (.ref c1)]))
    refine OGo.st (fun _ k_ => XS.iloadN X0.here hx rfl (hb hby own_d_jdk_2529_method_15_code_53) rfl k_) ?_
    show OGo p.tables e below _ (s₁.setTop (mkF m 54 #[.val (.ref c1), .val (.int (0 : Int32)), .val (.int (5 : Int32)), .val (.int (0 : Int32)), .val (.int (1 : Int32)), .val (.long (w 1)), .second] [(.int (0 : Int32)), (.ref c1), (.int (1 : Int32)), (.ref c1)]))
    have qz83 := own_ldJ X0 hx hZ e0 A_c1 (j := (0 : Int32)) (v := (w 0)) (by decide) rfl (g := (mkF m 54 #[.val (.ref c1), .val (.int (0 : Int32)), .val (.int (5 : Int32)), .val (.int (0 : Int32)), .val (.int (1 : Int32)), .val (.long (w 1)), .second] [(.int (0 : Int32)), (.ref c1), (.int (1 : Int32)), (.ref c1)])) rfl rfl (hb hby own_d_jdk_2529_method_15_code_54)
    refine OGo.st qz83 ?_
    show OGo p.tables e below _ (s₁.setTop (mkF m 55 #[.val (.ref c1), .val (.int (0 : Int32)), .val (.int (5 : Int32)), .val (.int (0 : Int32)), .val (.int (1 : Int32)), .val (.long (w 1)), .second] [(.long (w 0)), (.int (1 : Int32)), (.ref c1)]))
    obtain ⟨T84, hz84, X84, ez84, W84, V84, st84⟩ := own_stJ X0 hx hZ e0 A_c1 (j := (1 : Int32)) (by decide)  (g := (mkF m 55 #[.val (.ref c1), .val (.int (0 : Int32)), .val (.int (5 : Int32)), .val (.int (0 : Int32)), .val (.int (1 : Int32)), .val (.long (w 1)), .second] [(.long (w 0)), (.int (1 : Int32)), (.ref c1)])) rfl rfl (hb hby own_d_jdk_2529_method_15_code_55)
    have N84 := Fr.snoc X84 N0 g_c1
    have K_85 : Keep h0 hz84 [c1] := (Keep.refl h0 [c1]).wr W84 (Or.inl (List.mem_of_getElem? (i := 0) rfl))
    refine OGo.st st84 ?_
    show OGo p.tables e below _ (T84.setTop (mkF m 56 #[.val (.ref c1), .val (.int (0 : Int32)), .val (.int (5 : Int32)), .val (.int (0 : Int32)), .val (.int (1 : Int32)), .val (.long (w 1)), .second] []))
    refine OGo.st (fun _ k_ => XS.goto X84.here hx rfl (pc0 := 56) (pc' := 31) rfl (hb hby own_d_jdk_2529_method_15_code_56) (by decide) (by decide) k_) ?_
    show OGo p.tables e below _ (T84.setTop (mkF m 31 #[.val (.ref c1), .val (.int (0 : Int32)), .val (.int (5 : Int32)), .val (.int (0 : Int32)), .val (.int (1 : Int32)), .val (.long (w 1)), .second] []))
    refine OGo.st (fun _ k_ => XS.iinc X84.here hx rfl (hb hby own_d_jdk_2529_method_15_code_31) rfl (l' := #[.val (.ref c1), .val (.int (0 : Int32)), .val (.int (5 : Int32)), .val (.int (-1 : Int32)), .val (.int (1 : Int32)), .val (.long (w 1)), .second]) rfl k_) ?_
    show OGo p.tables e below _ (T84.setTop (mkF m 34 #[.val (.ref c1), .val (.int (0 : Int32)), .val (.int (5 : Int32)), .val (.int (-1 : Int32)), .val (.int (1 : Int32)), .val (.long (w 1)), .second] []))
    refine OGo.st (fun _ k_ => XS.iloadN X84.here hx rfl (hb hby own_d_jdk_2529_method_15_code_34) rfl k_) ?_
    show OGo p.tables e below _ (T84.setTop (mkF m 35 #[.val (.ref c1), .val (.int (0 : Int32)), .val (.int (5 : Int32)), .val (.int (-1 : Int32)), .val (.int (1 : Int32)), .val (.long (w 1)), .second] [(.int (-1 : Int32))]))
    refine OGo.st (fun _ k_ => XS.iloadN X84.here hx rfl (hb hby own_d_jdk_2529_method_15_code_35) rfl k_) ?_
    show OGo p.tables e below _ (T84.setTop (mkF m 36 #[.val (.ref c1), .val (.int (0 : Int32)), .val (.int (5 : Int32)), .val (.int (-1 : Int32)), .val (.int (1 : Int32)), .val (.long (w 1)), .second] [(.int (0 : Int32)), (.int (-1 : Int32))]))
    refine OGo.st (fun _ k_ => XS.icmpYes X84.here hx rfl (pc0 := 36) (pc' := 59) rfl (hb hby own_d_jdk_2529_method_15_code_36) rfl (XT.ii_lt_t (by decide)) (by decide) (by decide) k_) ?_
    show OGo p.tables e below _ (T84.setTop (mkF m 59 #[.val (.ref c1), .val (.int (0 : Int32)), .val (.int (5 : Int32)), .val (.int (-1 : Int32)), .val (.int (1 : Int32)), .val (.long (w 1)), .second] []))
    refine OGo.st (fun _ k_ => XS.aloadN X84.here hx rfl (hb hby own_d_jdk_2529_method_15_code_59) rfl rfl k_) ?_
    show OGo p.tables e below _ (T84.setTop (mkF m 60 #[.val (.ref c1), .val (.int (0 : Int32)), .val (.int (5 : Int32)), .val (.int (-1 : Int32)), .val (.int (1 : Int32)), .val (.long (w 1)), .second] [(.ref c1)]))
    refine OGo.st (fun _ k_ => XS.iloadN X84.here hx rfl (hb hby own_d_jdk_2529_method_15_code_60) rfl k_) ?_
    show OGo p.tables e below _ (T84.setTop (mkF m 61 #[.val (.ref c1), .val (.int (0 : Int32)), .val (.int (5 : Int32)), .val (.int (-1 : Int32)), .val (.int (1 : Int32)), .val (.long (w 1)), .second] [(.int (-1 : Int32)), (.ref c1)]))
    refine OGo.st (fun _ k_ => XS.iconst X84.here hx rfl (hb hby own_d_jdk_2529_method_15_code_61) k_) ?_
    show OGo p.tables e below _ (T84.setTop (mkF m 62 #[.val (.ref c1), .val (.int (0 : Int32)), .val (.int (5 : Int32)), .val (.int (-1 : Int32)), .val (.int (1 : Int32)), .val (.long (w 1)), .second] [(.int (1 : Int32)), (.int (-1 : Int32)), (.ref c1)]))
    refine OGo.st (fun _ k_ => XS.iadd X84.here hx rfl (hb hby own_d_jdk_2529_method_15_code_62) rfl k_) ?_
    show OGo p.tables e below _ (T84.setTop (mkF m 63 #[.val (.ref c1), .val (.int (0 : Int32)), .val (.int (5 : Int32)), .val (.int (-1 : Int32)), .val (.int (1 : Int32)), .val (.long (w 1)), .second] [(.int (0 : Int32)), (.ref c1)]))
    refine OGo.st (fun _ k_ => XS.lload X84.here hx rfl (hb hby own_d_jdk_2529_method_15_code_63) rfl k_) ?_
    show OGo p.tables e below _ (T84.setTop (mkF m 65 #[.val (.ref c1), .val (.int (0 : Int32)), .val (.int (5 : Int32)), .val (.int (-1 : Int32)), .val (.int (1 : Int32)), .val (.long (w 1)), .second] [(.long (w 1)), (.int (0 : Int32)), (.ref c1)]))
    obtain ⟨T86, hz86, X86, ez86, W86, V86, st86⟩ := own_stJ X84 hx hZ ez84 V84 (j := (0 : Int32)) (by decide)  (g := (mkF m 65 #[.val (.ref c1), .val (.int (0 : Int32)), .val (.int (5 : Int32)), .val (.int (-1 : Int32)), .val (.int (1 : Int32)), .val (.long (w 1)), .second] [(.long (w 1)), (.int (0 : Int32)), (.ref c1)])) rfl rfl (hb hby own_d_jdk_2529_method_15_code_65)
    have N86 := Fr.snoc X86 N84 g_c1
    have K_87 : Keep h0 hz86 [c1] := K_85.wr W86 (Or.inl (List.mem_of_getElem? (i := 0) rfl))
    refine OGo.st st86 ?_
    show OGo p.tables e below _ (T86.setTop (mkF m 66 #[.val (.ref c1), .val (.int (0 : Int32)), .val (.int (5 : Int32)), .val (.int (-1 : Int32)), .val (.int (1 : Int32)), .val (.long (w 1)), .second] []))
    refine OGo.st (fun _ k_ => XS.goto X86.here hx rfl (pc0 := 66) (pc' := 3) rfl (hb hby own_d_jdk_2529_method_15_code_66) (by decide) (by decide) k_) ?_
    have Af_88 : Arf Z hz86 c1 k1 .long 5 (own_L (own_ins w 1 0)) := V86.congr (fun i hi => match i, hi with | 0, _ => rfl | 1, _ => rfl | 2, _ => rfl | 3, _ => rfl | 4, _ => rfl | (n_ + 5), q_ => absurd q_ (by show ¬ n_ + 5 < 5; omega))
    exact J1 T86 _ hz86 (-1 : Int32) (w 1) (own_ins w 1 0) X86 ez86 N86 K_87 Af_88 (own_step (k := 0) (p := 0) hI0 (by decide) (by decide) (fun _ => hc27) (fun q => absurd q (by decide)))
  · refine OGo.st (fun _ k_ => XT.lcmp X0.here hx rfl (hb hby own_d_jdk_2529_method_15_code_27) rfl k_) ?_
    show OGo p.tables e below _ (s₁.setTop (mkF m 28 #[.val (.ref c1), .val (.int (0 : Int32)), .val (.int (5 : Int32)), .val (.int (1 : Int32)), .val (.int (1 : Int32)), .val (.long (w 1)), .second] [(.int (XT.cmpL (w 1) (w 0)))]))
    refine OGo.st (fun _ k_ => XS.ifYes X0.here hx rfl (pc0 := 28) (pc' := 66) rfl (hb hby own_d_jdk_2529_method_15_code_28) rfl (XT.ll_ge_t hc27) (by decide) (by decide) k_) ?_
    show OGo p.tables e below _ (s₁.setTop (mkF m 66 #[.val (.ref c1), .val (.int (0 : Int32)), .val (.int (5 : Int32)), .val (.int (1 : Int32)), .val (.int (1 : Int32)), .val (.long (w 1)), .second] []))
    refine OGo.st (fun _ k_ => XS.goto X0.here hx rfl (pc0 := 66) (pc' := 3) rfl (hb hby own_d_jdk_2529_method_15_code_66) (by decide) (by decide) k_) ?_
    have Af_89 : Arf Z h0 c1 k1 .long 5 (own_L (own_ins w 1 1)) := A_c1.congr (fun i hi => match i, hi with | 0, _ => rfl | 1, _ => rfl | 2, _ => rfl | 3, _ => rfl | 4, _ => rfl | (n_ + 5), q_ => absurd q_ (by show ¬ n_ + 5 < 5; omega))
    exact J1 s₁ _ h0 (1 : Int32) (w 1) (own_ins w 1 1) X0 e0 N0 (Keep.refl h0 [c1]) Af_89 (own_step (k := 0) (p := 1) hI0 (by decide) (by decide) (fun q => absurd q (by decide)) (fun _ => hc27))
theorem own_d_jdk_2529_method_13_code_0 : decode jdk_2529_method_13_code 0 = .ok (.iload 4, 2) := by decide +kernel
theorem own_d_jdk_2529_method_13_code_2 : decode jdk_2529_method_13_code 2 = .ok (.iconst 1, 1) := by decide +kernel
theorem own_d_jdk_2529_method_13_code_3 : decode jdk_2529_method_13_code 3 = .ok (.isub, 1) := by decide +kernel
theorem own_d_jdk_2529_method_13_code_4 : decode jdk_2529_method_13_code 4 = .ok (.istore 5, 2) := by decide +kernel
theorem own_d_jdk_2529_method_13_code_6 : decode jdk_2529_method_13_code 6 = .ok (.iload 4, 2) := by decide +kernel
theorem own_d_jdk_2529_method_13_code_8 : decode jdk_2529_method_13_code 8 = .ok (.iload_n 3, 1) := by decide +kernel
theorem own_d_jdk_2529_method_13_code_9 : decode jdk_2529_method_13_code 9 = .ok (.isub, 1) := by decide +kernel
theorem own_d_jdk_2529_method_13_code_10 : decode jdk_2529_method_13_code 10 = .ok (.istore 6, 2) := by decide +kernel
theorem own_d_jdk_2529_method_13_code_12 : decode jdk_2529_method_13_code 12 = .ok (.iload 6, 2) := by decide +kernel
theorem own_d_jdk_2529_method_13_code_14 : decode jdk_2529_method_13_code 14 = .ok (.bipush 65, 2) := by decide +kernel
theorem own_d_jdk_2529_method_13_code_16 : decode jdk_2529_method_13_code 16 = .ok (.iload_n 2, 1) := by decide +kernel
theorem own_d_jdk_2529_method_13_code_17 : decode jdk_2529_method_13_code 17 = .ok (.iadd, 1) := by decide +kernel
theorem own_d_jdk_2529_method_13_code_18 : decode jdk_2529_method_13_code 18 = .ok (.if_icmp .ge 28, 3) := by decide +kernel
theorem own_d_jdk_2529_method_13_code_21 : decode jdk_2529_method_13_code 21 = .ok (.iload_n 2, 1) := by decide +kernel
theorem own_d_jdk_2529_method_13_code_22 : decode jdk_2529_method_13_code 22 = .ok (.iconst 1, 1) := by decide +kernel
theorem own_d_jdk_2529_method_13_code_23 : decode jdk_2529_method_13_code 23 = .ok (.iand, 1) := by decide +kernel
theorem own_d_jdk_2529_method_13_code_24 : decode jdk_2529_method_13_code 24 = .ok (.ifCond .le 22, 3) := by decide +kernel
theorem own_d_jdk_2529_method_13_code_46 : decode jdk_2529_method_13_code 46 = .ok (.iload 6, 2) := by decide +kernel
theorem own_d_jdk_2529_method_13_code_48 : decode jdk_2529_method_13_code 48 = .ok (.bipush 44, 2) := by decide +kernel
theorem own_d_jdk_2529_method_13_code_50 : decode jdk_2529_method_13_code 50 = .ok (.if_icmp .ge 11, 3) := by decide +kernel
theorem own_d_jdk_2529_method_13_code_53 : decode jdk_2529_method_13_code 53 = .ok (.aload_n 1, 1) := by decide +kernel
theorem own_d_jdk_2529_method_13_code_54 : decode jdk_2529_method_13_code 54 = .ok (.iload_n 3, 1) := by decide +kernel
theorem own_d_jdk_2529_method_13_code_55 : decode jdk_2529_method_13_code 55 = .ok (.iload 4, 2) := by decide +kernel
theorem own_d_jdk_2529_method_13_code_57 : decode jdk_2529_method_13_code 57 = .ok (.invokestatic 105, 3) := by decide +kernel
theorem own_pd1 : parseMethodDescriptor "([JII)V" = some ⟨[(.array .long), .int, .int], none⟩ := by decide +kernel
theorem own_d_jdk_2529_method_13_code_60 : decode jdk_2529_method_13_code 60 = .ok (.return_, 1) := by decide +kernel
theorem own_ef_rm6 (m : MethodId) (x0 : Addr) (x1 : Int32) (x2 : Int32) (x3 : Int32) : entryFrame m #[.null, (.ref x0), (.int x1), (.int x2), (.int x3)] 25 = mkF m 0 #[.val .null, .val (.ref x0), .val (.int x1), .val (.int x2), .val (.int x3), .unset, .unset, .unset, .unset, .unset, .unset, .unset, .unset, .unset, .unset, .unset, .unset, .unset, .unset, .unset, .unset, .unset, .unset, .unset, .unset] [] := by first | (simp [entryFrame, mkF, argsToLocals, Value.category]; done) | rfl
def own_Q_rm6 (Z : State) (c1 : Addr) (k1 : ClassId) (w : Nat → Int64) (h0 : Heap) (n0 : Nat) (v : Option Value) (h : Heap) (L : List Loc) : Prop := v = none ∧ Fr n0 L ∧ Keep h0 h [c1] ∧ ∃ w1 : Nat → Int64, Arf Z h c1 k1 .long 5 (own_L w1) ∧ own_I 4 w w1
set_option maxRecDepth 65536 in
set_option maxHeartbeats 40000000 in
theorem rm6 (l : Launch) (Z : State) (a0 : Array Value) (hw : ∀ d ∈ tables_1, d.before a0 Z = true) (ws : List Jvm.Cond) (c1 : Addr) (k1 : ClassId) (w : Nat → Int64) (h0 : Heap) (n0 : Nat) (Z0 : n0 ≤ h0.size) (A_c1 : Arf Z h0 c1 k1 .long 5 (own_L w)) (g_c1 : n0 ≤ c1) :
    OMet l Z (⟨"java/util/DualPivotQuicksort", "sort", "(Ljava/util/DualPivotQuicksort$Sorter;[JIII)V"⟩ : MethodName) jdk_2529_method_13_code 25 none ws ({ frames := 1, cells := 0, slots := 0, locals := 18 } : Room) #[.null, (.ref c1), (.int (0 : Int32)), (.int (0 : Int32)), (.int (5 : Int32))] h0 (own_Q_rm6 Z c1 k1 w h0 n0) := by
  refine MetFree.of_bodySF (plainFor_of_name own_pn2) hisR ?_
  intro p e s m args below meth c s₁ Bd hml0 hP hK
  obtain ⟨rfl, hZ, hh⟩ := hP
  have hx := Bd.exec
  have hby := Bd.bytes
  have hml : c.maxLocals = 25 := hml0
  have hown : s.vm.findClass "java/util/DualPivotQuicksort" = some m.cls := findClass_of_methodNamed Bd.named
  have hnm := (name_of_methodNamed Bd.named Bd.method).1
  have hlk : meth.locks = false := Bd.notSynchronized
  have X0 : Stand p l e ({ frames := 1, cells := 0, slots := 0, locals := 18 } : Room) s m #[.null, (.ref c1), (.int (0 : Int32)), (.int (0 : Int32)), (.int (5 : Int32))] below meth c s₁ [] 0 0 := Stand.of_body Bd
  have e0 : s₁.heap = h0 := by rw [← hh, Bd.state]; rfl
  have N0 := Fr.nil n0
  refine OGo.enter (P := OPost s (own_Q_rm6 Z c1 k1 w h0 n0) 0 0) (own_ef_rm6 m c1 (0 : Int32) (0 : Int32) (5 : Int32)) ?_
  show OGo p.tables e below _ (s₁.setTop (mkF m 0 #[.val .null, .val (.ref c1), .val (.int (0 : Int32)), .val (.int (0 : Int32)), .val (.int (5 : Int32)), .unset, .unset, .unset, .unset, .unset, .unset, .unset, .unset, .unset, .unset, .unset, .unset, .unset, .unset, .unset, .unset, .unset, .unset, .unset, .unset] []))
  refine OGo.st (fun _ k_ => XS.iload X0.here hx rfl (hb hby own_d_jdk_2529_method_13_code_0) rfl k_) ?_
  show OGo p.tables e below _ (s₁.setTop (mkF m 2 #[.val .null, .val (.ref c1), .val (.int (0 : Int32)), .val (.int (0 : Int32)), .val (.int (5 : Int32)), .unset, .unset, .unset, .unset, .unset, .unset, .unset, .unset, .unset, .unset, .unset, .unset, .unset, .unset, .unset, .unset, .unset, .unset, .unset, .unset] [(.int (5 : Int32))]))
  refine OGo.st (fun _ k_ => XS.iconst X0.here hx rfl (hb hby own_d_jdk_2529_method_13_code_2) k_) ?_
  show OGo p.tables e below _ (s₁.setTop (mkF m 3 #[.val .null, .val (.ref c1), .val (.int (0 : Int32)), .val (.int (0 : Int32)), .val (.int (5 : Int32)), .unset, .unset, .unset, .unset, .unset, .unset, .unset, .unset, .unset, .unset, .unset, .unset, .unset, .unset, .unset, .unset, .unset, .unset, .unset, .unset] [(.int (1 : Int32)), (.int (5 : Int32))]))
  refine OGo.st (fun _ k_ => XS.isub X0.here hx rfl (hb hby own_d_jdk_2529_method_13_code_3) rfl k_) ?_
  show OGo p.tables e below _ (s₁.setTop (mkF m 4 #[.val .null, .val (.ref c1), .val (.int (0 : Int32)), .val (.int (0 : Int32)), .val (.int (5 : Int32)), .unset, .unset, .unset, .unset, .unset, .unset, .unset, .unset, .unset, .unset, .unset, .unset, .unset, .unset, .unset, .unset, .unset, .unset, .unset, .unset] [(.int (4 : Int32))]))
  refine OGo.st (fun _ k_ => XS.istore X0.here hx rfl (hb hby own_d_jdk_2529_method_13_code_4) rfl (l' := #[.val .null, .val (.ref c1), .val (.int (0 : Int32)), .val (.int (0 : Int32)), .val (.int (5 : Int32)), .val (.int (4 : Int32)), .unset, .unset, .unset, .unset, .unset, .unset, .unset, .unset, .unset, .unset, .unset, .unset, .unset, .unset, .unset, .unset, .unset, .unset, .unset]) rfl k_) ?_
  show OGo p.tables e below _ (s₁.setTop (mkF m 6 #[.val .null, .val (.ref c1), .val (.int (0 : Int32)), .val (.int (0 : Int32)), .val (.int (5 : Int32)), .val (.int (4 : Int32)), .unset, .unset, .unset, .unset, .unset, .unset, .unset, .unset, .unset, .unset, .unset, .unset, .unset, .unset, .unset, .unset, .unset, .unset, .unset] []))
  refine OGo.st (fun _ k_ => XS.iload X0.here hx rfl (hb hby own_d_jdk_2529_method_13_code_6) rfl k_) ?_
  show OGo p.tables e below _ (s₁.setTop (mkF m 8 #[.val .null, .val (.ref c1), .val (.int (0 : Int32)), .val (.int (0 : Int32)), .val (.int (5 : Int32)), .val (.int (4 : Int32)), .unset, .unset, .unset, .unset, .unset, .unset, .unset, .unset, .unset, .unset, .unset, .unset, .unset, .unset, .unset, .unset, .unset, .unset, .unset] [(.int (5 : Int32))]))
  refine OGo.st (fun _ k_ => XS.iloadN X0.here hx rfl (hb hby own_d_jdk_2529_method_13_code_8) rfl k_) ?_
  show OGo p.tables e below _ (s₁.setTop (mkF m 9 #[.val .null, .val (.ref c1), .val (.int (0 : Int32)), .val (.int (0 : Int32)), .val (.int (5 : Int32)), .val (.int (4 : Int32)), .unset, .unset, .unset, .unset, .unset, .unset, .unset, .unset, .unset, .unset, .unset, .unset, .unset, .unset, .unset, .unset, .unset, .unset, .unset] [(.int (0 : Int32)), (.int (5 : Int32))]))
  refine OGo.st (fun _ k_ => XS.isub X0.here hx rfl (hb hby own_d_jdk_2529_method_13_code_9) rfl k_) ?_
  show OGo p.tables e below _ (s₁.setTop (mkF m 10 #[.val .null, .val (.ref c1), .val (.int (0 : Int32)), .val (.int (0 : Int32)), .val (.int (5 : Int32)), .val (.int (4 : Int32)), .unset, .unset, .unset, .unset, .unset, .unset, .unset, .unset, .unset, .unset, .unset, .unset, .unset, .unset, .unset, .unset, .unset, .unset, .unset] [(.int (5 : Int32))]))
  refine OGo.st (fun _ k_ => XS.istore X0.here hx rfl (hb hby own_d_jdk_2529_method_13_code_10) rfl (l' := #[.val .null, .val (.ref c1), .val (.int (0 : Int32)), .val (.int (0 : Int32)), .val (.int (5 : Int32)), .val (.int (4 : Int32)), .val (.int (5 : Int32)), .unset, .unset, .unset, .unset, .unset, .unset, .unset, .unset, .unset, .unset, .unset, .unset, .unset, .unset, .unset, .unset, .unset, .unset]) rfl k_) ?_
  show OGo p.tables e below _ (s₁.setTop (mkF m 12 #[.val .null, .val (.ref c1), .val (.int (0 : Int32)), .val (.int (0 : Int32)), .val (.int (5 : Int32)), .val (.int (4 : Int32)), .val (.int (5 : Int32)), .unset, .unset, .unset, .unset, .unset, .unset, .unset, .unset, .unset, .unset, .unset, .unset, .unset, .unset, .unset, .unset, .unset, .unset] []))
  refine OGo.st (fun _ k_ => XS.iload X0.here hx rfl (hb hby own_d_jdk_2529_method_13_code_12) rfl k_) ?_
  show OGo p.tables e below _ (s₁.setTop (mkF m 14 #[.val .null, .val (.ref c1), .val (.int (0 : Int32)), .val (.int (0 : Int32)), .val (.int (5 : Int32)), .val (.int (4 : Int32)), .val (.int (5 : Int32)), .unset, .unset, .unset, .unset, .unset, .unset, .unset, .unset, .unset, .unset, .unset, .unset, .unset, .unset, .unset, .unset, .unset, .unset] [(.int (5 : Int32))]))
  refine OGo.st (fun _ k_ => XS.bipush X0.here hx rfl (hb hby own_d_jdk_2529_method_13_code_14) k_) ?_
  show OGo p.tables e below _ (s₁.setTop (mkF m 16 #[.val .null, .val (.ref c1), .val (.int (0 : Int32)), .val (.int (0 : Int32)), .val (.int (5 : Int32)), .val (.int (4 : Int32)), .val (.int (5 : Int32)), .unset, .unset, .unset, .unset, .unset, .unset, .unset, .unset, .unset, .unset, .unset, .unset, .unset, .unset, .unset, .unset, .unset, .unset] [(.int (65 : Int32)), (.int (5 : Int32))]))
  refine OGo.st (fun _ k_ => XS.iloadN X0.here hx rfl (hb hby own_d_jdk_2529_method_13_code_16) rfl k_) ?_
  show OGo p.tables e below _ (s₁.setTop (mkF m 17 #[.val .null, .val (.ref c1), .val (.int (0 : Int32)), .val (.int (0 : Int32)), .val (.int (5 : Int32)), .val (.int (4 : Int32)), .val (.int (5 : Int32)), .unset, .unset, .unset, .unset, .unset, .unset, .unset, .unset, .unset, .unset, .unset, .unset, .unset, .unset, .unset, .unset, .unset, .unset] [(.int (0 : Int32)), (.int (65 : Int32)), (.int (5 : Int32))]))
  refine OGo.st (fun _ k_ => XS.iadd X0.here hx rfl (hb hby own_d_jdk_2529_method_13_code_17) rfl k_) ?_
  show OGo p.tables e below _ (s₁.setTop (mkF m 18 #[.val .null, .val (.ref c1), .val (.int (0 : Int32)), .val (.int (0 : Int32)), .val (.int (5 : Int32)), .val (.int (4 : Int32)), .val (.int (5 : Int32)), .unset, .unset, .unset, .unset, .unset, .unset, .unset, .unset, .unset, .unset, .unset, .unset, .unset, .unset, .unset, .unset, .unset, .unset] [(.int (65 : Int32)), (.int (5 : Int32))]))
  refine OGo.st (fun _ k_ => XS.icmpNo X0.here hx rfl (hb hby own_d_jdk_2529_method_13_code_18) rfl (XT.ii_ge_f (by decide)) k_) ?_
  show OGo p.tables e below _ (s₁.setTop (mkF m 21 #[.val .null, .val (.ref c1), .val (.int (0 : Int32)), .val (.int (0 : Int32)), .val (.int (5 : Int32)), .val (.int (4 : Int32)), .val (.int (5 : Int32)), .unset, .unset, .unset, .unset, .unset, .unset, .unset, .unset, .unset, .unset, .unset, .unset, .unset, .unset, .unset, .unset, .unset, .unset] []))
  refine OGo.st (fun _ k_ => XS.iloadN X0.here hx rfl (hb hby own_d_jdk_2529_method_13_code_21) rfl k_) ?_
  show OGo p.tables e below _ (s₁.setTop (mkF m 22 #[.val .null, .val (.ref c1), .val (.int (0 : Int32)), .val (.int (0 : Int32)), .val (.int (5 : Int32)), .val (.int (4 : Int32)), .val (.int (5 : Int32)), .unset, .unset, .unset, .unset, .unset, .unset, .unset, .unset, .unset, .unset, .unset, .unset, .unset, .unset, .unset, .unset, .unset, .unset] [(.int (0 : Int32))]))
  refine OGo.st (fun _ k_ => XS.iconst X0.here hx rfl (hb hby own_d_jdk_2529_method_13_code_22) k_) ?_
  show OGo p.tables e below _ (s₁.setTop (mkF m 23 #[.val .null, .val (.ref c1), .val (.int (0 : Int32)), .val (.int (0 : Int32)), .val (.int (5 : Int32)), .val (.int (4 : Int32)), .val (.int (5 : Int32)), .unset, .unset, .unset, .unset, .unset, .unset, .unset, .unset, .unset, .unset, .unset, .unset, .unset, .unset, .unset, .unset, .unset, .unset] [(.int (1 : Int32)), (.int (0 : Int32))]))
  refine OGo.st (fun _ k_ => XS.iand X0.here hx rfl (hb hby own_d_jdk_2529_method_13_code_23) rfl k_) ?_
  show OGo p.tables e below _ (s₁.setTop (mkF m 24 #[.val .null, .val (.ref c1), .val (.int (0 : Int32)), .val (.int (0 : Int32)), .val (.int (5 : Int32)), .val (.int (4 : Int32)), .val (.int (5 : Int32)), .unset, .unset, .unset, .unset, .unset, .unset, .unset, .unset, .unset, .unset, .unset, .unset, .unset, .unset, .unset, .unset, .unset, .unset] [(.int (0 : Int32))]))
  refine OGo.st (fun _ k_ => XS.ifYes X0.here hx rfl (pc0 := 24) (pc' := 46) rfl (hb hby own_d_jdk_2529_method_13_code_24) rfl (XT.i0_le_t (by decide)) (by decide) (by decide) k_) ?_
  show OGo p.tables e below _ (s₁.setTop (mkF m 46 #[.val .null, .val (.ref c1), .val (.int (0 : Int32)), .val (.int (0 : Int32)), .val (.int (5 : Int32)), .val (.int (4 : Int32)), .val (.int (5 : Int32)), .unset, .unset, .unset, .unset, .unset, .unset, .unset, .unset, .unset, .unset, .unset, .unset, .unset, .unset, .unset, .unset, .unset, .unset] []))
  refine OGo.st (fun _ k_ => XS.iload X0.here hx rfl (hb hby own_d_jdk_2529_method_13_code_46) rfl k_) ?_
  show OGo p.tables e below _ (s₁.setTop (mkF m 48 #[.val .null, .val (.ref c1), .val (.int (0 : Int32)), .val (.int (0 : Int32)), .val (.int (5 : Int32)), .val (.int (4 : Int32)), .val (.int (5 : Int32)), .unset, .unset, .unset, .unset, .unset, .unset, .unset, .unset, .unset, .unset, .unset, .unset, .unset, .unset, .unset, .unset, .unset, .unset] [(.int (5 : Int32))]))
  refine OGo.st (fun _ k_ => XS.bipush X0.here hx rfl (hb hby own_d_jdk_2529_method_13_code_48) k_) ?_
  show OGo p.tables e below _ (s₁.setTop (mkF m 50 #[.val .null, .val (.ref c1), .val (.int (0 : Int32)), .val (.int (0 : Int32)), .val (.int (5 : Int32)), .val (.int (4 : Int32)), .val (.int (5 : Int32)), .unset, .unset, .unset, .unset, .unset, .unset, .unset, .unset, .unset, .unset, .unset, .unset, .unset, .unset, .unset, .unset, .unset, .unset] [(.int (44 : Int32)), (.int (5 : Int32))]))
  refine OGo.st (fun _ k_ => XS.icmpNo X0.here hx rfl (hb hby own_d_jdk_2529_method_13_code_50) rfl (XT.ii_ge_f (by decide)) k_) ?_
  show OGo p.tables e below _ (s₁.setTop (mkF m 53 #[.val .null, .val (.ref c1), .val (.int (0 : Int32)), .val (.int (0 : Int32)), .val (.int (5 : Int32)), .val (.int (4 : Int32)), .val (.int (5 : Int32)), .unset, .unset, .unset, .unset, .unset, .unset, .unset, .unset, .unset, .unset, .unset, .unset, .unset, .unset, .unset, .unset, .unset, .unset] []))
  refine OGo.st (fun _ k_ => XS.aloadN X0.here hx rfl (hb hby own_d_jdk_2529_method_13_code_53) rfl rfl k_) ?_
  show OGo p.tables e below _ (s₁.setTop (mkF m 54 #[.val .null, .val (.ref c1), .val (.int (0 : Int32)), .val (.int (0 : Int32)), .val (.int (5 : Int32)), .val (.int (4 : Int32)), .val (.int (5 : Int32)), .unset, .unset, .unset, .unset, .unset, .unset, .unset, .unset, .unset, .unset, .unset, .unset, .unset, .unset, .unset, .unset, .unset, .unset] [(.ref c1)]))
  refine OGo.st (fun _ k_ => XS.iloadN X0.here hx rfl (hb hby own_d_jdk_2529_method_13_code_54) rfl k_) ?_
  show OGo p.tables e below _ (s₁.setTop (mkF m 55 #[.val .null, .val (.ref c1), .val (.int (0 : Int32)), .val (.int (0 : Int32)), .val (.int (5 : Int32)), .val (.int (4 : Int32)), .val (.int (5 : Int32)), .unset, .unset, .unset, .unset, .unset, .unset, .unset, .unset, .unset, .unset, .unset, .unset, .unset, .unset, .unset, .unset, .unset, .unset] [(.int (0 : Int32)), (.ref c1)]))
  refine OGo.st (fun _ k_ => XS.iload X0.here hx rfl (hb hby own_d_jdk_2529_method_13_code_55) rfl k_) ?_
  show OGo p.tables e below _ (s₁.setTop (mkF m 57 #[.val .null, .val (.ref c1), .val (.int (0 : Int32)), .val (.int (0 : Int32)), .val (.int (5 : Int32)), .val (.int (4 : Int32)), .val (.int (5 : Int32)), .unset, .unset, .unset, .unset, .unset, .unset, .unset, .unset, .unset, .unset, .unset, .unset, .unset, .unset, .unset, .unset, .unset, .unset] [(.int (5 : Int32)), (.int (0 : Int32)), (.ref c1)]))
  obtain ⟨_, _, ⟨T1, Lz1, kz1, nz1⟩, -, X1, ⟨Lc1, hQ1, lz1, yz1, zz1⟩, st1⟩ := Jvm.LawKit.callS X0 hx (y := (⟨"java/util/DualPivotQuicksort", "insertionSort", "([JII)V"⟩ : MethodName)) hown (mvT hZ (hw _ (List.mem_of_getElem? (i := 69) rfl))) (mvT hZ (hw _ (List.mem_of_getElem? (i := 70) rfl))) (mvT hZ (hw _ (List.mem_of_getElem? (i := 64) rfl))) (mvT hZ (hw _ (List.mem_of_getElem? (i := 71) rfl))) (by decide) (backOf (W := 0) (rm5 l Z a0 hw [] c1 k1 w h0 n0 (Nat.le_trans Z0 (Keep.refl h0 [c1]).1) A_c1 g_c1) hZ (hw _ (List.mem_of_getElem? (i := 71) rfl)) (hw _ (List.mem_of_getElem? (i := 64) rfl)) (by decide) (by decide)) (g := (mkF m 57 #[.val .null, .val (.ref c1), .val (.int (0 : Int32)), .val (.int (0 : Int32)), .val (.int (5 : Int32)), .val (.int (4 : Int32)), .val (.int (5 : Int32)), .unset, .unset, .unset, .unset, .unset, .unset, .unset, .unset, .unset, .unset, .unset, .unset, .unset, .unset, .unset, .unset, .unset, .unset] [(.int (5 : Int32)), (.int (0 : Int32)), (.ref c1)])) rfl (by rw [hml]; rfl) (argsL := [(.ref c1), (.int (0 : Int32)), (.int (5 : Int32))]) (rest := []) (lenOf own_pd1 rfl) rfl (by show 2 * 0 + _ ≤ _; exact Nat.le_of_eq rfl) (hb hby own_d_jdk_2529_method_13_code_57) (fun _ _ => ⟨rfl, e0, (by decide : 0 + 0 ≤ _), (by decide : 0 + 0 ≤ _)⟩)
  dsimp only [Pt.U, Pt.locs, Pt.cells, Pt.slots] at X1 lz1 yz1 zz1 st1 hQ1
  have X1 := own_reb X1 lz1 yz1 zz1
  have X1 : Stand p l e ({ frames := 1, cells := 0, slots := 0, locals := 18 } : Room) s m #[.null, (.ref c1), (.int (0 : Int32)), (.int (0 : Int32)), (.int (5 : Int32))] below meth c T1 _ 0 0 := X1
  obtain ⟨hvq1, Nq1, Kq1, w1_, A1q, I1q⟩ := hQ1
  rw [hvq1] at st1
  have N1 := Fr.app N0 Nq1
  have K_2 : Keep h0 T1.heap [c1] := (Keep.refl h0 [c1]).trans Kq1 (allS (Or.inl (List.mem_of_getElem? (i := 0) rfl)) all0)
  refine OGo.st st1 ?_
  show OGo p.tables e below _ (T1.setTop (mkF m 60 #[.val .null, .val (.ref c1), .val (.int (0 : Int32)), .val (.int (0 : Int32)), .val (.int (5 : Int32)), .val (.int (4 : Int32)), .val (.int (5 : Int32)), .unset, .unset, .unset, .unset, .unset, .unset, .unset, .unset, .unset, .unset, .unset, .unset, .unset, .unset, .unset, .unset, .unset, .unset] []))
  refine OGo.fin X1 (v := none) (fun _ => rfl) hlk (fun fs hr => X1.returnOut hx Bd.returns (hb hby own_d_jdk_2529_method_13_code_60) hr) ?_ (by decide) (by decide)
  show own_Q_rm6 Z c1 k1 w h0 n0 _ T1.heap _
  skip
  exact ⟨rfl, N1, K_2, w1_, A1q, I1q⟩
theorem own_d_jdk_2529_method_12_code_0 : decode jdk_2529_method_12_code 0 = .ok (.iload_n 3, 1) := by decide +kernel
theorem own_d_jdk_2529_method_12_code_1 : decode jdk_2529_method_12_code 1 = .ok (.iload_n 2, 1) := by decide +kernel
theorem own_d_jdk_2529_method_12_code_2 : decode jdk_2529_method_12_code 2 = .ok (.isub, 1) := by decide +kernel
theorem own_d_jdk_2529_method_12_code_3 : decode jdk_2529_method_12_code 3 = .ok (.istore 4, 2) := by decide +kernel
theorem own_d_jdk_2529_method_12_code_5 : decode jdk_2529_method_12_code 5 = .ok (.iload_n 1, 1) := by decide +kernel
theorem own_d_jdk_2529_method_12_code_6 : decode jdk_2529_method_12_code 6 = .ok (.iconst 1, 1) := by decide +kernel
theorem own_d_jdk_2529_method_12_code_7 : decode jdk_2529_method_12_code 7 = .ok (.if_icmp .le 61, 3) := by decide +kernel
theorem own_d_jdk_2529_method_12_code_68 : decode jdk_2529_method_12_code 68 = .ok (.aconst_null, 1) := by decide +kernel
theorem own_d_jdk_2529_method_12_code_69 : decode jdk_2529_method_12_code 69 = .ok (.aload_n 0, 1) := by decide +kernel
theorem own_d_jdk_2529_method_12_code_70 : decode jdk_2529_method_12_code 70 = .ok (.iconst 0, 1) := by decide +kernel
theorem own_d_jdk_2529_method_12_code_71 : decode jdk_2529_method_12_code 71 = .ok (.iload_n 2, 1) := by decide +kernel
theorem own_d_jdk_2529_method_12_code_72 : decode jdk_2529_method_12_code 72 = .ok (.iload_n 3, 1) := by decide +kernel
theorem own_d_jdk_2529_method_12_code_73 : decode jdk_2529_method_12_code 73 = .ok (.invokestatic 99, 3) := by decide +kernel
theorem own_pd2 : parseMethodDescriptor "(Ljava/util/DualPivotQuicksort$Sorter;[JIII)V" = some ⟨[(.object "java/util/DualPivotQuicksort$Sorter"), (.array .long), .int, .int, .int], none⟩ := by decide +kernel
theorem own_d_jdk_2529_method_12_code_76 : decode jdk_2529_method_12_code 76 = .ok (.return_, 1) := by decide +kernel
theorem own_ef_rm7 (m : MethodId) (x0 : Addr) (x1 : Int32) (x2 : Int32) (x3 : Int32) : entryFrame m #[(.ref x0), (.int x1), (.int x2), (.int x3)] 7 = mkF m 0 #[.val (.ref x0), .val (.int x1), .val (.int x2), .val (.int x3), .unset, .unset, .unset] [] := by first | (simp [entryFrame, mkF, argsToLocals, Value.category]; done) | rfl
def own_Q_rm7 (Z : State) (c1 : Addr) (k1 : ClassId) (w : Nat → Int64) (h0 : Heap) (n0 : Nat) (v : Option Value) (h : Heap) (L : List Loc) : Prop := v = none ∧ Fr n0 L ∧ Keep h0 h [c1] ∧ ∃ w1 : Nat → Int64, Arf Z h c1 k1 .long 5 (own_L w1) ∧ own_I 4 w w1
set_option maxRecDepth 65536 in
set_option maxHeartbeats 40000000 in
theorem rm7 (l : Launch) (Z : State) (a0 : Array Value) (hw : ∀ d ∈ tables_1, d.before a0 Z = true) (ws : List Jvm.Cond) (c1 : Addr) (k1 : ClassId) (w : Nat → Int64) (h0 : Heap) (n0 : Nat) (Z0 : n0 ≤ h0.size) (A_c1 : Arf Z h0 c1 k1 .long 5 (own_L w)) (g_c1 : n0 ≤ c1) :
    OMet l Z (⟨"java/util/DualPivotQuicksort", "sort", "([JIII)V"⟩ : MethodName) jdk_2529_method_12_code 7 none ws ({ frames := 2, cells := 0, slots := 0, locals := 54 } : Room) #[(.ref c1), (.int (0 : Int32)), (.int (0 : Int32)), (.int (5 : Int32))] h0 (own_Q_rm7 Z c1 k1 w h0 n0) := by
  refine MetFree.of_bodySF (plainFor_of_name own_pn2) hisR ?_
  intro p e s m args below meth c s₁ Bd hml0 hP hK
  obtain ⟨rfl, hZ, hh⟩ := hP
  have hx := Bd.exec
  have hby := Bd.bytes
  have hml : c.maxLocals = 7 := hml0
  have hown : s.vm.findClass "java/util/DualPivotQuicksort" = some m.cls := findClass_of_methodNamed Bd.named
  have hnm := (name_of_methodNamed Bd.named Bd.method).1
  have hlk : meth.locks = false := Bd.notSynchronized
  have X0 : Stand p l e ({ frames := 2, cells := 0, slots := 0, locals := 54 } : Room) s m #[(.ref c1), (.int (0 : Int32)), (.int (0 : Int32)), (.int (5 : Int32))] below meth c s₁ [] 0 0 := Stand.of_body Bd
  have e0 : s₁.heap = h0 := by rw [← hh, Bd.state]; rfl
  have N0 := Fr.nil n0
  refine OGo.enter (P := OPost s (own_Q_rm7 Z c1 k1 w h0 n0) 0 0) (own_ef_rm7 m c1 (0 : Int32) (0 : Int32) (5 : Int32)) ?_
  show OGo p.tables e below _ (s₁.setTop (mkF m 0 #[.val (.ref c1), .val (.int (0 : Int32)), .val (.int (0 : Int32)), .val (.int (5 : Int32)), .unset, .unset, .unset] []))
  refine OGo.st (fun _ k_ => XS.iloadN X0.here hx rfl (hb hby own_d_jdk_2529_method_12_code_0) rfl k_) ?_
  show OGo p.tables e below _ (s₁.setTop (mkF m 1 #[.val (.ref c1), .val (.int (0 : Int32)), .val (.int (0 : Int32)), .val (.int (5 : Int32)), .unset, .unset, .unset] [(.int (5 : Int32))]))
  refine OGo.st (fun _ k_ => XS.iloadN X0.here hx rfl (hb hby own_d_jdk_2529_method_12_code_1) rfl k_) ?_
  show OGo p.tables e below _ (s₁.setTop (mkF m 2 #[.val (.ref c1), .val (.int (0 : Int32)), .val (.int (0 : Int32)), .val (.int (5 : Int32)), .unset, .unset, .unset] [(.int (0 : Int32)), (.int (5 : Int32))]))
  refine OGo.st (fun _ k_ => XS.isub X0.here hx rfl (hb hby own_d_jdk_2529_method_12_code_2) rfl k_) ?_
  show OGo p.tables e below _ (s₁.setTop (mkF m 3 #[.val (.ref c1), .val (.int (0 : Int32)), .val (.int (0 : Int32)), .val (.int (5 : Int32)), .unset, .unset, .unset] [(.int (5 : Int32))]))
  refine OGo.st (fun _ k_ => XS.istore X0.here hx rfl (hb hby own_d_jdk_2529_method_12_code_3) rfl (l' := #[.val (.ref c1), .val (.int (0 : Int32)), .val (.int (0 : Int32)), .val (.int (5 : Int32)), .val (.int (5 : Int32)), .unset, .unset]) rfl k_) ?_
  show OGo p.tables e below _ (s₁.setTop (mkF m 5 #[.val (.ref c1), .val (.int (0 : Int32)), .val (.int (0 : Int32)), .val (.int (5 : Int32)), .val (.int (5 : Int32)), .unset, .unset] []))
  refine OGo.st (fun _ k_ => XS.iloadN X0.here hx rfl (hb hby own_d_jdk_2529_method_12_code_5) rfl k_) ?_
  show OGo p.tables e below _ (s₁.setTop (mkF m 6 #[.val (.ref c1), .val (.int (0 : Int32)), .val (.int (0 : Int32)), .val (.int (5 : Int32)), .val (.int (5 : Int32)), .unset, .unset] [(.int (0 : Int32))]))
  refine OGo.st (fun _ k_ => XS.iconst X0.here hx rfl (hb hby own_d_jdk_2529_method_12_code_6) k_) ?_
  show OGo p.tables e below _ (s₁.setTop (mkF m 7 #[.val (.ref c1), .val (.int (0 : Int32)), .val (.int (0 : Int32)), .val (.int (5 : Int32)), .val (.int (5 : Int32)), .unset, .unset] [(.int (1 : Int32)), (.int (0 : Int32))]))
  refine OGo.st (fun _ k_ => XS.icmpYes X0.here hx rfl (pc0 := 7) (pc' := 68) rfl (hb hby own_d_jdk_2529_method_12_code_7) rfl (XT.ii_le_t (by decide)) (by decide) (by decide) k_) ?_
  show OGo p.tables e below _ (s₁.setTop (mkF m 68 #[.val (.ref c1), .val (.int (0 : Int32)), .val (.int (0 : Int32)), .val (.int (5 : Int32)), .val (.int (5 : Int32)), .unset, .unset] []))
  refine OGo.st (fun _ k_ => XS.aconstNull X0.here hx rfl (hb hby own_d_jdk_2529_method_12_code_68) k_) ?_
  show OGo p.tables e below _ (s₁.setTop (mkF m 69 #[.val (.ref c1), .val (.int (0 : Int32)), .val (.int (0 : Int32)), .val (.int (5 : Int32)), .val (.int (5 : Int32)), .unset, .unset] [.null]))
  refine OGo.st (fun _ k_ => XS.aloadN X0.here hx rfl (hb hby own_d_jdk_2529_method_12_code_69) rfl rfl k_) ?_
  show OGo p.tables e below _ (s₁.setTop (mkF m 70 #[.val (.ref c1), .val (.int (0 : Int32)), .val (.int (0 : Int32)), .val (.int (5 : Int32)), .val (.int (5 : Int32)), .unset, .unset] [(.ref c1), .null]))
  refine OGo.st (fun _ k_ => XS.iconst X0.here hx rfl (hb hby own_d_jdk_2529_method_12_code_70) k_) ?_
  show OGo p.tables e below _ (s₁.setTop (mkF m 71 #[.val (.ref c1), .val (.int (0 : Int32)), .val (.int (0 : Int32)), .val (.int (5 : Int32)), .val (.int (5 : Int32)), .unset, .unset] [(.int (0 : Int32)), (.ref c1), .null]))
  refine OGo.st (fun _ k_ => XS.iloadN X0.here hx rfl (hb hby own_d_jdk_2529_method_12_code_71) rfl k_) ?_
  show OGo p.tables e below _ (s₁.setTop (mkF m 72 #[.val (.ref c1), .val (.int (0 : Int32)), .val (.int (0 : Int32)), .val (.int (5 : Int32)), .val (.int (5 : Int32)), .unset, .unset] [(.int (0 : Int32)), (.int (0 : Int32)), (.ref c1), .null]))
  refine OGo.st (fun _ k_ => XS.iloadN X0.here hx rfl (hb hby own_d_jdk_2529_method_12_code_72) rfl k_) ?_
  show OGo p.tables e below _ (s₁.setTop (mkF m 73 #[.val (.ref c1), .val (.int (0 : Int32)), .val (.int (0 : Int32)), .val (.int (5 : Int32)), .val (.int (5 : Int32)), .unset, .unset] [(.int (5 : Int32)), (.int (0 : Int32)), (.int (0 : Int32)), (.ref c1), .null]))
  obtain ⟨_, _, ⟨T1, Lz1, kz1, nz1⟩, -, X1, ⟨Lc1, hQ1, lz1, yz1, zz1⟩, st1⟩ := Jvm.LawKit.callS X0 hx (y := (⟨"java/util/DualPivotQuicksort", "sort", "(Ljava/util/DualPivotQuicksort$Sorter;[JIII)V"⟩ : MethodName)) hown (mvT hZ (hw _ (List.mem_of_getElem? (i := 66) rfl))) (mvT hZ (hw _ (List.mem_of_getElem? (i := 67) rfl))) (mvT hZ (hw _ (List.mem_of_getElem? (i := 64) rfl))) (mvT hZ (hw _ (List.mem_of_getElem? (i := 68) rfl))) (by decide) (backOf (W := 0) (rm6 l Z a0 hw [] c1 k1 w h0 n0 (Nat.le_trans Z0 (Keep.refl h0 [c1]).1) A_c1 g_c1) hZ (hw _ (List.mem_of_getElem? (i := 68) rfl)) (hw _ (List.mem_of_getElem? (i := 64) rfl)) (by decide) (by decide)) (g := (mkF m 73 #[.val (.ref c1), .val (.int (0 : Int32)), .val (.int (0 : Int32)), .val (.int (5 : Int32)), .val (.int (5 : Int32)), .unset, .unset] [(.int (5 : Int32)), (.int (0 : Int32)), (.int (0 : Int32)), (.ref c1), .null])) rfl (by rw [hml]; rfl) (argsL := [.null, (.ref c1), (.int (0 : Int32)), (.int (0 : Int32)), (.int (5 : Int32))]) (rest := []) (lenOf own_pd2 rfl) rfl (by show 2 * 0 + _ ≤ _; exact Nat.le_of_eq rfl) (hb hby own_d_jdk_2529_method_12_code_73) (fun _ _ => ⟨rfl, e0, (by decide : 0 + 0 ≤ _), (by decide : 0 + 0 ≤ _)⟩)
  dsimp only [Pt.U, Pt.locs, Pt.cells, Pt.slots] at X1 lz1 yz1 zz1 st1 hQ1
  have X1 := own_reb X1 lz1 yz1 zz1
  have X1 : Stand p l e ({ frames := 2, cells := 0, slots := 0, locals := 54 } : Room) s m #[(.ref c1), (.int (0 : Int32)), (.int (0 : Int32)), (.int (5 : Int32))] below meth c T1 _ 0 0 := X1
  obtain ⟨hvq1, Nq1, Kq1, w1_, A1q, I1q⟩ := hQ1
  rw [hvq1] at st1
  have N1 := Fr.app N0 Nq1
  have K_2 : Keep h0 T1.heap [c1] := (Keep.refl h0 [c1]).trans Kq1 (allS (Or.inl (List.mem_of_getElem? (i := 0) rfl)) all0)
  refine OGo.st st1 ?_
  show OGo p.tables e below _ (T1.setTop (mkF m 76 #[.val (.ref c1), .val (.int (0 : Int32)), .val (.int (0 : Int32)), .val (.int (5 : Int32)), .val (.int (5 : Int32)), .unset, .unset] []))
  refine OGo.fin X1 (v := none) (fun _ => rfl) hlk (fun fs hr => X1.returnOut hx Bd.returns (hb hby own_d_jdk_2529_method_12_code_76) hr) ?_ (by decide) (by decide)
  show own_Q_rm7 Z c1 k1 w h0 n0 _ T1.heap _
  skip
  exact ⟨rfl, N1, K_2, w1_, A1q, I1q⟩
theorem own_d_jdk_65_method_4_code_0 : decode jdk_65_method_4_code 0 = .ok (.aload_n 0, 1) := by decide +kernel
theorem own_d_jdk_65_method_4_code_1 : decode jdk_65_method_4_code 1 = .ok (.iconst 0, 1) := by decide +kernel
theorem own_d_jdk_65_method_4_code_2 : decode jdk_65_method_4_code 2 = .ok (.iconst 0, 1) := by decide +kernel
theorem own_d_jdk_65_method_4_code_3 : decode jdk_65_method_4_code 3 = .ok (.aload_n 0, 1) := by decide +kernel
theorem own_d_jdk_65_method_4_code_4 : decode jdk_65_method_4_code 4 = .ok (.arraylength, 1) := by decide +kernel
theorem own_d_jdk_65_method_4_code_5 : decode jdk_65_method_4_code 5 = .ok (.invokestatic 19, 3) := by decide +kernel
theorem own_pd3 : parseMethodDescriptor "([JIII)V" = some ⟨[(.array .long), .int, .int, .int], none⟩ := by decide +kernel
theorem own_d_jdk_65_method_4_code_8 : decode jdk_65_method_4_code 8 = .ok (.return_, 1) := by decide +kernel
theorem own_pn3 : plainName "java/util/Arrays" = true := by first | (simp [plainName, overriddenIn]; done) | decide +kernel
theorem own_ef_rm8 (m : MethodId) (x0 : Addr) : entryFrame m #[(.ref x0)] 1 = mkF m 0 #[.val (.ref x0)] [] := by first | (simp [entryFrame, mkF, argsToLocals, Value.category]; done) | rfl
def own_Q_rm8 (Z : State) (c1 : Addr) (k1 : ClassId) (w : Nat → Int64) (h0 : Heap) (n0 : Nat) (v : Option Value) (h : Heap) (L : List Loc) : Prop := v = none ∧ Fr n0 L ∧ Keep h0 h [c1] ∧ ∃ w1 : Nat → Int64, Arf Z h c1 k1 .long 5 (own_L w1) ∧ own_I 4 w w1
set_option maxRecDepth 65536 in
set_option maxHeartbeats 40000000 in
theorem rm8 (l : Launch) (Z : State) (a0 : Array Value) (hw : ∀ d ∈ tables_1, d.before a0 Z = true) (ws : List Jvm.Cond) (c1 : Addr) (k1 : ClassId) (w : Nat → Int64) (h0 : Heap) (n0 : Nat) (Z0 : n0 ≤ h0.size) (A_c1 : Arf Z h0 c1 k1 .long 5 (own_L w)) (g_c1 : n0 ≤ c1) :
    OMet l Z (⟨"java/util/Arrays", "sort", "([J)V"⟩ : MethodName) jdk_65_method_4_code 1 none ws ({ frames := 3, cells := 0, slots := 0, locals := 72 } : Room) #[(.ref c1)] h0 (own_Q_rm8 Z c1 k1 w h0 n0) := by
  refine MetFree.of_bodySF (plainFor_of_name own_pn3) hisR ?_
  intro p e s m args below meth c s₁ Bd hml0 hP hK
  obtain ⟨rfl, hZ, hh⟩ := hP
  have hx := Bd.exec
  have hby := Bd.bytes
  have hml : c.maxLocals = 1 := hml0
  have hown : s.vm.findClass "java/util/Arrays" = some m.cls := findClass_of_methodNamed Bd.named
  have hnm := (name_of_methodNamed Bd.named Bd.method).1
  have hlk : meth.locks = false := Bd.notSynchronized
  have X0 : Stand p l e ({ frames := 3, cells := 0, slots := 0, locals := 72 } : Room) s m #[(.ref c1)] below meth c s₁ [] 0 0 := Stand.of_body Bd
  have e0 : s₁.heap = h0 := by rw [← hh, Bd.state]; rfl
  have N0 := Fr.nil n0
  refine OGo.enter (P := OPost s (own_Q_rm8 Z c1 k1 w h0 n0) 0 0) (own_ef_rm8 m c1) ?_
  show OGo p.tables e below _ (s₁.setTop (mkF m 0 #[.val (.ref c1)] []))
  refine OGo.st (fun _ k_ => XS.aloadN X0.here hx rfl (hb hby own_d_jdk_65_method_4_code_0) rfl rfl k_) ?_
  show OGo p.tables e below _ (s₁.setTop (mkF m 1 #[.val (.ref c1)] [(.ref c1)]))
  refine OGo.st (fun _ k_ => XS.iconst X0.here hx rfl (hb hby own_d_jdk_65_method_4_code_1) k_) ?_
  show OGo p.tables e below _ (s₁.setTop (mkF m 2 #[.val (.ref c1)] [(.int (0 : Int32)), (.ref c1)]))
  refine OGo.st (fun _ k_ => XS.iconst X0.here hx rfl (hb hby own_d_jdk_65_method_4_code_2) k_) ?_
  show OGo p.tables e below _ (s₁.setTop (mkF m 3 #[.val (.ref c1)] [(.int (0 : Int32)), (.int (0 : Int32)), (.ref c1)]))
  refine OGo.st (fun _ k_ => XS.aloadN X0.here hx rfl (hb hby own_d_jdk_65_method_4_code_3) rfl rfl k_) ?_
  show OGo p.tables e below _ (s₁.setTop (mkF m 4 #[.val (.ref c1)] [(.ref c1), (.int (0 : Int32)), (.int (0 : Int32)), (.ref c1)]))
  have qz1 := own_alen X0 hx hZ e0 A_c1 (g := (mkF m 4 #[.val (.ref c1)] [(.ref c1), (.int (0 : Int32)), (.int (0 : Int32)), (.ref c1)])) rfl rfl (hb hby own_d_jdk_65_method_4_code_4)
  refine OGo.st qz1 ?_
  show OGo p.tables e below _ (s₁.setTop (mkF m 5 #[.val (.ref c1)] [(.int (5 : Int32)), (.int (0 : Int32)), (.int (0 : Int32)), (.ref c1)]))
  obtain ⟨_, _, ⟨T2, Lz2, kz2, nz2⟩, -, X2, ⟨Lc2, hQ2, lz2, yz2, zz2⟩, st2⟩ := Jvm.LawKit.callS X0 hx (y := (⟨"java/util/DualPivotQuicksort", "sort", "([JIII)V"⟩ : MethodName)) hown (mvT hZ (hw _ (List.mem_of_getElem? (i := 62) rfl))) (mvT hZ (hw _ (List.mem_of_getElem? (i := 63) rfl))) (mvT hZ (hw _ (List.mem_of_getElem? (i := 64) rfl))) (mvT hZ (hw _ (List.mem_of_getElem? (i := 65) rfl))) (by decide) (backOf (W := 0) (rm7 l Z a0 hw [] c1 k1 w h0 n0 (Nat.le_trans Z0 (Keep.refl h0 [c1]).1) A_c1 g_c1) hZ (hw _ (List.mem_of_getElem? (i := 65) rfl)) (hw _ (List.mem_of_getElem? (i := 64) rfl)) (by decide) (by decide)) (g := (mkF m 5 #[.val (.ref c1)] [(.int (5 : Int32)), (.int (0 : Int32)), (.int (0 : Int32)), (.ref c1)])) rfl (by rw [hml]; rfl) (argsL := [(.ref c1), (.int (0 : Int32)), (.int (0 : Int32)), (.int (5 : Int32))]) (rest := []) (lenOf own_pd3 rfl) rfl (by show 2 * 0 + _ ≤ _; exact Nat.le_of_eq rfl) (hb hby own_d_jdk_65_method_4_code_5) (fun _ _ => ⟨rfl, e0, (by decide : 0 + 0 ≤ _), (by decide : 0 + 0 ≤ _)⟩)
  dsimp only [Pt.U, Pt.locs, Pt.cells, Pt.slots] at X2 lz2 yz2 zz2 st2 hQ2
  have X2 := own_reb X2 lz2 yz2 zz2
  have X2 : Stand p l e ({ frames := 3, cells := 0, slots := 0, locals := 72 } : Room) s m #[(.ref c1)] below meth c T2 _ 0 0 := X2
  obtain ⟨hvq2, Nq2, Kq2, w2_, A2q, I2q⟩ := hQ2
  rw [hvq2] at st2
  have N2 := Fr.app N0 Nq2
  have K_3 : Keep h0 T2.heap [c1] := (Keep.refl h0 [c1]).trans Kq2 (allS (Or.inl (List.mem_of_getElem? (i := 0) rfl)) all0)
  refine OGo.st st2 ?_
  show OGo p.tables e below _ (T2.setTop (mkF m 8 #[.val (.ref c1)] []))
  refine OGo.fin X2 (v := none) (fun _ => rfl) hlk (fun fs hr => X2.returnOut hx Bd.returns (hb hby own_d_jdk_65_method_4_code_8) hr) ?_ (by decide) (by decide)
  show own_Q_rm8 Z c1 k1 w h0 n0 _ T2.heap _
  skip
  exact ⟨rfl, N2, K_3, w2_, A2q, I2q⟩
theorem own_d_prog_120_method_5_code_0 : decode prog_120_method_5_code 0 = .ok (.iconst 5, 1) := by decide +kernel
theorem own_d_prog_120_method_5_code_1 : decode prog_120_method_5_code 1 = .ok (.newarray .long, 2) := by decide +kernel
theorem own_d_prog_120_method_5_code_3 : decode prog_120_method_5_code 3 = .ok (.astore_n 2, 1) := by decide +kernel
theorem own_d_prog_120_method_5_code_4 : decode prog_120_method_5_code 4 = .ok (.iconst 0, 1) := by decide +kernel
theorem own_d_prog_120_method_5_code_5 : decode prog_120_method_5_code 5 = .ok (.istore_n 3, 1) := by decide +kernel
theorem own_d_prog_120_method_5_code_6 : decode prog_120_method_5_code 6 = .ok (.iload_n 3, 1) := by decide +kernel
theorem own_d_prog_120_method_5_code_7 : decode prog_120_method_5_code 7 = .ok (.iconst 5, 1) := by decide +kernel
theorem own_d_prog_120_method_5_code_8 : decode prog_120_method_5_code 8 = .ok (.if_icmp .ge 35, 3) := by decide +kernel
theorem own_d_prog_120_method_5_code_11 : decode prog_120_method_5_code 11 = .ok (.aload_n 2, 1) := by decide +kernel
theorem own_d_prog_120_method_5_code_12 : decode prog_120_method_5_code 12 = .ok (.iload_n 3, 1) := by decide +kernel
theorem own_d_prog_120_method_5_code_13 : decode prog_120_method_5_code 13 = .ok (.aload_n 0, 1) := by decide +kernel
theorem own_d_prog_120_method_5_code_14 : decode prog_120_method_5_code 14 = .ok (.getfield 9, 3) := by decide +kernel
theorem own_d_prog_120_method_5_code_17 : decode prog_120_method_5_code 17 = .ok (.aload_n 0, 1) := by decide +kernel
theorem own_d_prog_120_method_5_code_18 : decode prog_120_method_5_code 18 = .ok (.getfield 28, 3) := by decide +kernel
theorem own_d_prog_120_method_5_code_21 : decode prog_120_method_5_code 21 = .ok (.iload_n 1, 1) := by decide +kernel
theorem own_d_prog_120_method_5_code_22 : decode prog_120_method_5_code 22 = .ok (.i2l, 1) := by decide +kernel
theorem own_d_prog_120_method_5_code_23 : decode prog_120_method_5_code 23 = .ok (.lsub, 1) := by decide +kernel
theorem own_d_prog_120_method_5_code_24 : decode prog_120_method_5_code 24 = .ok (.iload_n 3, 1) := by decide +kernel
theorem own_d_prog_120_method_5_code_25 : decode prog_120_method_5_code 25 = .ok (.i2l, 1) := by decide +kernel
theorem own_d_prog_120_method_5_code_26 : decode prog_120_method_5_code 26 = .ok (.ladd, 1) := by decide +kernel
theorem own_d_prog_120_method_5_code_27 : decode prog_120_method_5_code 27 = .ok (.aload_n 0, 1) := by decide +kernel
theorem own_d_prog_120_method_5_code_28 : decode prog_120_method_5_code 28 = .ok (.getfield 9, 3) := by decide +kernel
theorem own_d_prog_120_method_5_code_31 : decode prog_120_method_5_code 31 = .ok (.arraylength, 1) := by decide +kernel
theorem own_d_prog_120_method_5_code_32 : decode prog_120_method_5_code 32 = .ok (.i2l, 1) := by decide +kernel
theorem own_d_prog_120_method_5_code_33 : decode prog_120_method_5_code 33 = .ok (.lrem, 1) := by decide +kernel
theorem own_d_prog_120_method_5_code_34 : decode prog_120_method_5_code 34 = .ok (.l2i, 1) := by decide +kernel
theorem own_d_prog_120_method_5_code_35 : decode prog_120_method_5_code 35 = .ok (.laload, 1) := by decide +kernel
theorem own_d_prog_120_method_5_code_36 : decode prog_120_method_5_code 36 = .ok (.lastore, 1) := by decide +kernel
theorem own_d_prog_120_method_5_code_37 : decode prog_120_method_5_code 37 = .ok (.iinc 3 1, 3) := by decide +kernel
theorem own_d_prog_120_method_5_code_40 : decode prog_120_method_5_code 40 = .ok (.goto (-34), 3) := by decide +kernel
theorem own_d_prog_120_method_5_code_43 : decode prog_120_method_5_code 43 = .ok (.aload_n 2, 1) := by decide +kernel
theorem own_d_prog_120_method_5_code_44 : decode prog_120_method_5_code 44 = .ok (.invokestatic 53, 3) := by decide +kernel
theorem own_pd4 : parseMethodDescriptor "([J)V" = some ⟨[(.array .long)], none⟩ := by decide +kernel
theorem own_d_prog_120_method_5_code_47 : decode prog_120_method_5_code 47 = .ok (.aload_n 2, 1) := by decide +kernel
theorem own_d_prog_120_method_5_code_48 : decode prog_120_method_5_code 48 = .ok (.iconst 2, 1) := by decide +kernel
theorem own_d_prog_120_method_5_code_49 : decode prog_120_method_5_code 49 = .ok (.laload, 1) := by decide +kernel
theorem own_d_prog_120_method_5_code_50 : decode prog_120_method_5_code 50 = .ok (.lreturn, 1) := by decide +kernel
theorem own_ef_rm9 (m : MethodId) (x0 : Addr) (x1 : Int32) : entryFrame m #[(.ref x0), (.int x1)] 4 = mkF m 0 #[.val (.ref x0), .val (.int x1), .unset, .unset] [] := by first | (simp [entryFrame, mkF, argsToLocals, Value.category]; done) | rfl
def own_Q_rm9 (Z : State) (a1 : Addr) (b1 : Addr) (k1 : ClassId) (w : Nat → Int64) (lo hi : Int64) (h0 : Heap) (n0 : Nat) (v : Option Value) (h : Heap) (L : List Loc) : Prop := v = some (.long (own_med (own_cnt hi (fun i => w (5 + i))) lo hi)) ∧ Fr n0 L ∧ Keep h0 h []
set_option maxRecDepth 65536 in
set_option maxHeartbeats 40000000 in
theorem rm9 (l : Launch) (Z : State) (a0 : Array Value) (hw : ∀ d ∈ tables_1, d.before a0 Z = true) (ws : List Jvm.Cond) (a1 : Addr) (b1 : Addr) (k1 : ClassId) (w : Nat → Int64) (lo hi : Int64) (h0 : Heap) (n0 : Nat) (Z0 : n0 ≤ h0.size) (F_recent_a1 : Fld Z h0 a1 "com/example/locator/locator/cli/WarmUp" "recent" "[J" (.ref b1)) (F_passes_a1 : Fld Z h0 a1 "com/example/locator/locator/cli/WarmUp" "passes" "J" (.long (10 : Int64))) (A_b1 : Arf Z h0 b1 k1 .long 10 (own_L w)) (hl : ¬ hi < lo) (hv : ∀ i, i < 10 → w i = lo ∨ w i = hi) :
    OMet l Z (⟨"com/example/locator/locator/cli/WarmUp", "median", "(I)J"⟩ : MethodName) prog_120_method_5_code 4 (some .long) ws ({ frames := 4, cells := 1, slots := 5, locals := 84 } : Room) #[(.ref a1), (.int (5 : Int32))] h0 (own_Q_rm9 Z a1 b1 k1 w lo hi h0 n0) := by
  refine MetFree.of_bodySF (plainFor_of_name own_pn0) hisR ?_
  intro p e s m args below meth c s₁ Bd hml0 hP hK
  obtain ⟨rfl, hZ, hh⟩ := hP
  have hx := Bd.exec
  have hby := Bd.bytes
  have hml : c.maxLocals = 4 := hml0
  have hown : s.vm.findClass "com/example/locator/locator/cli/WarmUp" = some m.cls := findClass_of_methodNamed Bd.named
  have hnm := (name_of_methodNamed Bd.named Bd.method).1
  have hlk : meth.locks = false := Bd.notSynchronized
  have X0 : Stand p l e ({ frames := 4, cells := 1, slots := 5, locals := 84 } : Room) s m #[(.ref a1), (.int (5 : Int32))] below meth c s₁ [] 0 0 := Stand.of_body Bd
  have e0 : s₁.heap = h0 := by rw [← hh, Bd.state]; rfl
  have N0 := Fr.nil n0
  refine OGo.enter (P := OPost s (own_Q_rm9 Z a1 b1 k1 w lo hi h0 n0) 1 5) (own_ef_rm9 m a1 (5 : Int32)) ?_
  show OGo p.tables e below _ (s₁.setTop (mkF m 0 #[.val (.ref a1), .val (.int (5 : Int32)), .unset, .unset] []))
  refine OGo.st (fun _ k_ => XS.iconst X0.here hx rfl (hb hby own_d_prog_120_method_5_code_0) k_) ?_
  show OGo p.tables e below _ (s₁.setTop (mkF m 1 #[.val (.ref a1), .val (.int (5 : Int32)), .unset, .unset] [(.int (5 : Int32))]))
  obtain ⟨T1, hz1, kz1, X1, ez1, Ez1, Az1, st1⟩ := newP X0 hx hZ (hw _ (List.mem_of_getElem? (i := 11) rfl)) e0 (g := (mkF m 1 #[.val (.ref a1), .val (.int (5 : Int32)), .unset, .unset] [(.int (5 : Int32))])) rfl (hb hby own_d_prog_120_method_5_code_1) rfl (by decide) (cap := 5) (by decide) (by decide) (by decide) (by decide)
  obtain ⟨bz1, g1⟩ : ∃ z, z = h0.size := ⟨_, rfl⟩
  rw [← g1] at Az1 st1
  have lt_a1_bz1 : @LT.lt Nat instLTNat a1 bz1 := Nat.lt_of_lt_of_le F_recent_a1.lt (Nat.le_of_eq g1.symm)
  have lt_b1_bz1 : @LT.lt Nat instLTNat b1 bz1 := Nat.lt_of_lt_of_le A_b1.lt (Nat.le_of_eq g1.symm)
  have g_bz1 : n0 ≤ bz1 := Nat.le_trans (Nat.le_trans Z0 (Keep.refl h0 []).1) (Nat.le_of_eq g1.symm)
  have sz_bz1 : h0.size ≤ bz1 := Nat.le_trans (Keep.refl h0 []).1 (Nat.le_of_eq g1.symm)
  have F_2 := F_recent_a1.ext Ez1
  have F_3 := F_passes_a1.ext Ez1
  have Af_4 := A_b1.ext Ez1
  have K_5 : Keep h0 hz1 [] := (Keep.refl h0 []).ext Ez1
  have V_bz1 : Arf Z hz1 bz1 kz1 .long (5 : Int32) (fun _ => (.long (0 : Int64))) := own_new Az1 (by decide)
  refine OGo.st st1 ?_
  show OGo p.tables e below _ (T1.setTop (mkF m 3 #[.val (.ref a1), .val (.int (5 : Int32)), .unset, .unset] [(.ref bz1)]))
  refine OGo.st (fun _ k_ => XS.astoreN X1.here hx rfl (hb hby own_d_prog_120_method_5_code_3) rfl rfl (l' := #[.val (.ref a1), .val (.int (5 : Int32)), .val (.ref bz1), .unset]) rfl k_) ?_
  show OGo p.tables e below _ (T1.setTop (mkF m 4 #[.val (.ref a1), .val (.int (5 : Int32)), .val (.ref bz1), .unset] []))
  refine OGo.st (fun _ k_ => XS.iconst X1.here hx rfl (hb hby own_d_prog_120_method_5_code_4) k_) ?_
  show OGo p.tables e below _ (T1.setTop (mkF m 5 #[.val (.ref a1), .val (.int (5 : Int32)), .val (.ref bz1), .unset] [(.int (0 : Int32))]))
  refine OGo.st (fun _ k_ => XS.istoreN X1.here hx rfl (hb hby own_d_prog_120_method_5_code_5) rfl (l' := #[.val (.ref a1), .val (.int (5 : Int32)), .val (.ref bz1), .val (.int (0 : Int32))]) rfl k_) ?_
  show OGo p.tables e below _ (T1.setTop (mkF m 6 #[.val (.ref a1), .val (.int (5 : Int32)), .val (.ref bz1), .val (.int (0 : Int32))] []))
  refine OGo.st (fun _ k_ => XS.iloadN X1.here hx rfl (hb hby own_d_prog_120_method_5_code_6) rfl k_) ?_
  show OGo p.tables e below _ (T1.setTop (mkF m 7 #[.val (.ref a1), .val (.int (5 : Int32)), .val (.ref bz1), .val (.int (0 : Int32))] [(.int (0 : Int32))]))
  refine OGo.st (fun _ k_ => XS.iconst X1.here hx rfl (hb hby own_d_prog_120_method_5_code_7) k_) ?_
  show OGo p.tables e below _ (T1.setTop (mkF m 8 #[.val (.ref a1), .val (.int (5 : Int32)), .val (.ref bz1), .val (.int (0 : Int32))] [(.int (5 : Int32)), (.int (0 : Int32))]))
  refine OGo.st (fun _ k_ => XS.icmpNo X1.here hx rfl (hb hby own_d_prog_120_method_5_code_8) rfl (XT.ii_ge_f (by decide)) k_) ?_
  show OGo p.tables e below _ (T1.setTop (mkF m 11 #[.val (.ref a1), .val (.int (5 : Int32)), .val (.ref bz1), .val (.int (0 : Int32))] []))
  refine OGo.st (fun _ k_ => XS.aloadN X1.here hx rfl (hb hby own_d_prog_120_method_5_code_11) rfl rfl k_) ?_
  show OGo p.tables e below _ (T1.setTop (mkF m 12 #[.val (.ref a1), .val (.int (5 : Int32)), .val (.ref bz1), .val (.int (0 : Int32))] [(.ref bz1)]))
  refine OGo.st (fun _ k_ => XS.iloadN X1.here hx rfl (hb hby own_d_prog_120_method_5_code_12) rfl k_) ?_
  show OGo p.tables e below _ (T1.setTop (mkF m 13 #[.val (.ref a1), .val (.int (5 : Int32)), .val (.ref bz1), .val (.int (0 : Int32))] [(.int (0 : Int32)), (.ref bz1)]))
  refine OGo.st (fun _ k_ => XS.aloadN X1.here hx rfl (hb hby own_d_prog_120_method_5_code_13) rfl rfl k_) ?_
  show OGo p.tables e below _ (T1.setTop (mkF m 14 #[.val (.ref a1), .val (.int (5 : Int32)), .val (.ref bz1), .val (.int (0 : Int32))] [(.ref a1), (.int (0 : Int32)), (.ref bz1)]))
  obtain ⟨T6, X6, ez6, st6⟩ := getF X1 hx hZ hown (host := "") (Or.inl (hw _ (List.mem_of_getElem? (i := 12) rfl))) Via.refl ez1 F_2 (g := (mkF m 14 #[.val (.ref a1), .val (.int (5 : Int32)), .val (.ref bz1), .val (.int (0 : Int32))] [(.ref a1), (.int (0 : Int32)), (.ref bz1)])) rfl rfl (hb hby own_d_prog_120_method_5_code_14)
  refine OGo.st st6 ?_
  show OGo p.tables e below _ (T6.setTop (mkF m 17 #[.val (.ref a1), .val (.int (5 : Int32)), .val (.ref bz1), .val (.int (0 : Int32))] [(.ref b1), (.int (0 : Int32)), (.ref bz1)]))
  refine OGo.st (fun _ k_ => XS.aloadN X6.here hx rfl (hb hby own_d_prog_120_method_5_code_17) rfl rfl k_) ?_
  show OGo p.tables e below _ (T6.setTop (mkF m 18 #[.val (.ref a1), .val (.int (5 : Int32)), .val (.ref bz1), .val (.int (0 : Int32))] [(.ref a1), (.ref b1), (.int (0 : Int32)), (.ref bz1)]))
  obtain ⟨T7, X7, ez7, st7⟩ := getF X6 hx hZ hown (host := "") (Or.inl (hw _ (List.mem_of_getElem? (i := 29) rfl))) Via.refl ez6 F_3 (g := (mkF m 18 #[.val (.ref a1), .val (.int (5 : Int32)), .val (.ref bz1), .val (.int (0 : Int32))] [(.ref a1), (.ref b1), (.int (0 : Int32)), (.ref bz1)])) rfl rfl (hb hby own_d_prog_120_method_5_code_18)
  refine OGo.st st7 ?_
  show OGo p.tables e below _ (T7.setTop (mkF m 21 #[.val (.ref a1), .val (.int (5 : Int32)), .val (.ref bz1), .val (.int (0 : Int32))] [(.long (10 : Int64)), (.ref b1), (.int (0 : Int32)), (.ref bz1)]))
  refine OGo.st (fun _ k_ => XS.iloadN X7.here hx rfl (hb hby own_d_prog_120_method_5_code_21) rfl k_) ?_
  show OGo p.tables e below _ (T7.setTop (mkF m 22 #[.val (.ref a1), .val (.int (5 : Int32)), .val (.ref bz1), .val (.int (0 : Int32))] [(.int (5 : Int32)), (.long (10 : Int64)), (.ref b1), (.int (0 : Int32)), (.ref bz1)]))
  refine OGo.st (fun _ k_ => XS.i2l X7.here hx rfl (hb hby own_d_prog_120_method_5_code_22) rfl k_) ?_
  show OGo p.tables e below _ (T7.setTop (mkF m 23 #[.val (.ref a1), .val (.int (5 : Int32)), .val (.ref bz1), .val (.int (0 : Int32))] [(.long (5 : Int32).toInt64), (.long (10 : Int64)), (.ref b1), (.int (0 : Int32)), (.ref bz1)]))
  refine OGo.st (fun _ k_ => XS.lsub X7.here hx rfl (hb hby own_d_prog_120_method_5_code_23) rfl k_) ?_
  show OGo p.tables e below _ (T7.setTop (mkF m 24 #[.val (.ref a1), .val (.int (5 : Int32)), .val (.ref bz1), .val (.int (0 : Int32))] [(.long ((10 : Int64) - (5 : Int32).toInt64)), (.ref b1), (.int (0 : Int32)), (.ref bz1)]))
  refine OGo.st (fun _ k_ => XS.iloadN X7.here hx rfl (hb hby own_d_prog_120_method_5_code_24) rfl k_) ?_
  show OGo p.tables e below _ (T7.setTop (mkF m 25 #[.val (.ref a1), .val (.int (5 : Int32)), .val (.ref bz1), .val (.int (0 : Int32))] [(.int (0 : Int32)), (.long ((10 : Int64) - (5 : Int32).toInt64)), (.ref b1), (.int (0 : Int32)), (.ref bz1)]))
  refine OGo.st (fun _ k_ => XS.i2l X7.here hx rfl (hb hby own_d_prog_120_method_5_code_25) rfl k_) ?_
  show OGo p.tables e below _ (T7.setTop (mkF m 26 #[.val (.ref a1), .val (.int (5 : Int32)), .val (.ref bz1), .val (.int (0 : Int32))] [(.long (0 : Int32).toInt64), (.long ((10 : Int64) - (5 : Int32).toInt64)), (.ref b1), (.int (0 : Int32)), (.ref bz1)]))
  refine OGo.st (fun _ k_ => XS.ladd X7.here hx rfl (hb hby own_d_prog_120_method_5_code_26) rfl k_) ?_
  show OGo p.tables e below _ (T7.setTop (mkF m 27 #[.val (.ref a1), .val (.int (5 : Int32)), .val (.ref bz1), .val (.int (0 : Int32))] [(.long (((10 : Int64) - (5 : Int32).toInt64) + (0 : Int32).toInt64)), (.ref b1), (.int (0 : Int32)), (.ref bz1)]))
  refine OGo.st (fun _ k_ => XS.aloadN X7.here hx rfl (hb hby own_d_prog_120_method_5_code_27) rfl rfl k_) ?_
  show OGo p.tables e below _ (T7.setTop (mkF m 28 #[.val (.ref a1), .val (.int (5 : Int32)), .val (.ref bz1), .val (.int (0 : Int32))] [(.ref a1), (.long (((10 : Int64) - (5 : Int32).toInt64) + (0 : Int32).toInt64)), (.ref b1), (.int (0 : Int32)), (.ref bz1)]))
  obtain ⟨T8, X8, ez8, st8⟩ := getF X7 hx hZ hown (host := "") (Or.inl (hw _ (List.mem_of_getElem? (i := 12) rfl))) Via.refl ez7 F_2 (g := (mkF m 28 #[.val (.ref a1), .val (.int (5 : Int32)), .val (.ref bz1), .val (.int (0 : Int32))] [(.ref a1), (.long (((10 : Int64) - (5 : Int32).toInt64) + (0 : Int32).toInt64)), (.ref b1), (.int (0 : Int32)), (.ref bz1)])) rfl rfl (hb hby own_d_prog_120_method_5_code_28)
  refine OGo.st st8 ?_
  show OGo p.tables e below _ (T8.setTop (mkF m 31 #[.val (.ref a1), .val (.int (5 : Int32)), .val (.ref bz1), .val (.int (0 : Int32))] [(.ref b1), (.long (((10 : Int64) - (5 : Int32).toInt64) + (0 : Int32).toInt64)), (.ref b1), (.int (0 : Int32)), (.ref bz1)]))
  have qz9 := own_alen X8 hx hZ ez8 Af_4 (g := (mkF m 31 #[.val (.ref a1), .val (.int (5 : Int32)), .val (.ref bz1), .val (.int (0 : Int32))] [(.ref b1), (.long (((10 : Int64) - (5 : Int32).toInt64) + (0 : Int32).toInt64)), (.ref b1), (.int (0 : Int32)), (.ref bz1)])) rfl rfl (hb hby own_d_prog_120_method_5_code_31)
  refine OGo.st qz9 ?_
  show OGo p.tables e below _ (T8.setTop (mkF m 32 #[.val (.ref a1), .val (.int (5 : Int32)), .val (.ref bz1), .val (.int (0 : Int32))] [(.int (10 : Int32)), (.long (((10 : Int64) - (5 : Int32).toInt64) + (0 : Int32).toInt64)), (.ref b1), (.int (0 : Int32)), (.ref bz1)]))
  refine OGo.st (fun _ k_ => XS.i2l X8.here hx rfl (hb hby own_d_prog_120_method_5_code_32) rfl k_) ?_
  show OGo p.tables e below _ (T8.setTop (mkF m 33 #[.val (.ref a1), .val (.int (5 : Int32)), .val (.ref bz1), .val (.int (0 : Int32))] [(.long (10 : Int32).toInt64), (.long (((10 : Int64) - (5 : Int32).toInt64) + (0 : Int32).toInt64)), (.ref b1), (.int (0 : Int32)), (.ref bz1)]))
  refine OGo.st (fun _ k_ => XS.lrem X8.here hx rfl (hb hby own_d_prog_120_method_5_code_33) rfl (by decide) k_) ?_
  show OGo p.tables e below _ (T8.setTop (mkF m 34 #[.val (.ref a1), .val (.int (5 : Int32)), .val (.ref bz1), .val (.int (0 : Int32))] [(.long ((((10 : Int64) - (5 : Int32).toInt64) + (0 : Int32).toInt64) - ((((10 : Int64) - (5 : Int32).toInt64) + (0 : Int32).toInt64) / (10 : Int32).toInt64) * (10 : Int32).toInt64)), (.ref b1), (.int (0 : Int32)), (.ref bz1)]))
  refine OGo.st (fun _ k_ => XS.l2i X8.here hx rfl (hb hby own_d_prog_120_method_5_code_34) rfl k_) ?_
  show OGo p.tables e below _ (T8.setTop (mkF m 35 #[.val (.ref a1), .val (.int (5 : Int32)), .val (.ref bz1), .val (.int (0 : Int32))] [(.int ((((10 : Int64) - (5 : Int32).toInt64) + (0 : Int32).toInt64) - ((((10 : Int64) - (5 : Int32).toInt64) + (0 : Int32).toInt64) / (10 : Int32).toInt64) * (10 : Int32).toInt64).toInt32), (.ref b1), (.int (0 : Int32)), (.ref bz1)]))
  have qz10 := own_ldJ X8 hx hZ ez8 Af_4 (j := ((((10 : Int64) - (5 : Int32).toInt64) + (0 : Int32).toInt64) - ((((10 : Int64) - (5 : Int32).toInt64) + (0 : Int32).toInt64) / (10 : Int32).toInt64) * (10 : Int32).toInt64).toInt32) (v := (w 5)) (by decide) (congrArg (own_L w) (show _ = 5 by decide)) (g := (mkF m 35 #[.val (.ref a1), .val (.int (5 : Int32)), .val (.ref bz1), .val (.int (0 : Int32))] [(.int ((((10 : Int64) - (5 : Int32).toInt64) + (0 : Int32).toInt64) - ((((10 : Int64) - (5 : Int32).toInt64) + (0 : Int32).toInt64) / (10 : Int32).toInt64) * (10 : Int32).toInt64).toInt32), (.ref b1), (.int (0 : Int32)), (.ref bz1)])) rfl rfl (hb hby own_d_prog_120_method_5_code_35)
  refine OGo.st qz10 ?_
  show OGo p.tables e below _ (T8.setTop (mkF m 36 #[.val (.ref a1), .val (.int (5 : Int32)), .val (.ref bz1), .val (.int (0 : Int32))] [(.long (w 5)), (.int (0 : Int32)), (.ref bz1)]))
  obtain ⟨T11, hz11, X11, ez11, W11, V11, st11⟩ := own_stJ X8 hx hZ ez8 V_bz1 (j := (0 : Int32)) (by decide)  (g := (mkF m 36 #[.val (.ref a1), .val (.int (5 : Int32)), .val (.ref bz1), .val (.int (0 : Int32))] [(.long (w 5)), (.int (0 : Int32)), (.ref bz1)])) rfl rfl (hb hby own_d_prog_120_method_5_code_36)
  have F_12 := F_2.other W11 (Or.inl (Nat.ne_of_lt lt_a1_bz1))
  have F_13 := F_3.other W11 (Or.inl (Nat.ne_of_lt lt_a1_bz1))
  have Af_14 := Af_4.other W11 (Nat.ne_of_lt lt_b1_bz1)
  have N11 := Fr.snoc X11 N0 g_bz1
  have K_15 : Keep h0 hz11 [] := K_5.wr W11 (Or.inr sz_bz1)
  refine OGo.st st11 ?_
  show OGo p.tables e below _ (T11.setTop (mkF m 37 #[.val (.ref a1), .val (.int (5 : Int32)), .val (.ref bz1), .val (.int (0 : Int32))] []))
  refine OGo.st (fun _ k_ => XS.iinc X11.here hx rfl (hb hby own_d_prog_120_method_5_code_37) rfl (l' := #[.val (.ref a1), .val (.int (5 : Int32)), .val (.ref bz1), .val (.int (1 : Int32))]) rfl k_) ?_
  show OGo p.tables e below _ (T11.setTop (mkF m 40 #[.val (.ref a1), .val (.int (5 : Int32)), .val (.ref bz1), .val (.int (1 : Int32))] []))
  refine OGo.st (fun _ k_ => XS.goto X11.here hx rfl (pc0 := 40) (pc' := 6) rfl (hb hby own_d_prog_120_method_5_code_40) (by decide) (by decide) k_) ?_
  show OGo p.tables e below _ (T11.setTop (mkF m 6 #[.val (.ref a1), .val (.int (5 : Int32)), .val (.ref bz1), .val (.int (1 : Int32))] []))
  refine OGo.st (fun _ k_ => XS.iloadN X11.here hx rfl (hb hby own_d_prog_120_method_5_code_6) rfl k_) ?_
  show OGo p.tables e below _ (T11.setTop (mkF m 7 #[.val (.ref a1), .val (.int (5 : Int32)), .val (.ref bz1), .val (.int (1 : Int32))] [(.int (1 : Int32))]))
  refine OGo.st (fun _ k_ => XS.iconst X11.here hx rfl (hb hby own_d_prog_120_method_5_code_7) k_) ?_
  show OGo p.tables e below _ (T11.setTop (mkF m 8 #[.val (.ref a1), .val (.int (5 : Int32)), .val (.ref bz1), .val (.int (1 : Int32))] [(.int (5 : Int32)), (.int (1 : Int32))]))
  refine OGo.st (fun _ k_ => XS.icmpNo X11.here hx rfl (hb hby own_d_prog_120_method_5_code_8) rfl (XT.ii_ge_f (by decide)) k_) ?_
  show OGo p.tables e below _ (T11.setTop (mkF m 11 #[.val (.ref a1), .val (.int (5 : Int32)), .val (.ref bz1), .val (.int (1 : Int32))] []))
  refine OGo.st (fun _ k_ => XS.aloadN X11.here hx rfl (hb hby own_d_prog_120_method_5_code_11) rfl rfl k_) ?_
  show OGo p.tables e below _ (T11.setTop (mkF m 12 #[.val (.ref a1), .val (.int (5 : Int32)), .val (.ref bz1), .val (.int (1 : Int32))] [(.ref bz1)]))
  refine OGo.st (fun _ k_ => XS.iloadN X11.here hx rfl (hb hby own_d_prog_120_method_5_code_12) rfl k_) ?_
  show OGo p.tables e below _ (T11.setTop (mkF m 13 #[.val (.ref a1), .val (.int (5 : Int32)), .val (.ref bz1), .val (.int (1 : Int32))] [(.int (1 : Int32)), (.ref bz1)]))
  refine OGo.st (fun _ k_ => XS.aloadN X11.here hx rfl (hb hby own_d_prog_120_method_5_code_13) rfl rfl k_) ?_
  show OGo p.tables e below _ (T11.setTop (mkF m 14 #[.val (.ref a1), .val (.int (5 : Int32)), .val (.ref bz1), .val (.int (1 : Int32))] [(.ref a1), (.int (1 : Int32)), (.ref bz1)]))
  obtain ⟨T16, X16, ez16, st16⟩ := getF X11 hx hZ hown (host := "") (Or.inl (hw _ (List.mem_of_getElem? (i := 12) rfl))) Via.refl ez11 F_12 (g := (mkF m 14 #[.val (.ref a1), .val (.int (5 : Int32)), .val (.ref bz1), .val (.int (1 : Int32))] [(.ref a1), (.int (1 : Int32)), (.ref bz1)])) rfl rfl (hb hby own_d_prog_120_method_5_code_14)
  refine OGo.st st16 ?_
  show OGo p.tables e below _ (T16.setTop (mkF m 17 #[.val (.ref a1), .val (.int (5 : Int32)), .val (.ref bz1), .val (.int (1 : Int32))] [(.ref b1), (.int (1 : Int32)), (.ref bz1)]))
  refine OGo.st (fun _ k_ => XS.aloadN X16.here hx rfl (hb hby own_d_prog_120_method_5_code_17) rfl rfl k_) ?_
  show OGo p.tables e below _ (T16.setTop (mkF m 18 #[.val (.ref a1), .val (.int (5 : Int32)), .val (.ref bz1), .val (.int (1 : Int32))] [(.ref a1), (.ref b1), (.int (1 : Int32)), (.ref bz1)]))
  obtain ⟨T17, X17, ez17, st17⟩ := getF X16 hx hZ hown (host := "") (Or.inl (hw _ (List.mem_of_getElem? (i := 29) rfl))) Via.refl ez16 F_13 (g := (mkF m 18 #[.val (.ref a1), .val (.int (5 : Int32)), .val (.ref bz1), .val (.int (1 : Int32))] [(.ref a1), (.ref b1), (.int (1 : Int32)), (.ref bz1)])) rfl rfl (hb hby own_d_prog_120_method_5_code_18)
  refine OGo.st st17 ?_
  show OGo p.tables e below _ (T17.setTop (mkF m 21 #[.val (.ref a1), .val (.int (5 : Int32)), .val (.ref bz1), .val (.int (1 : Int32))] [(.long (10 : Int64)), (.ref b1), (.int (1 : Int32)), (.ref bz1)]))
  refine OGo.st (fun _ k_ => XS.iloadN X17.here hx rfl (hb hby own_d_prog_120_method_5_code_21) rfl k_) ?_
  show OGo p.tables e below _ (T17.setTop (mkF m 22 #[.val (.ref a1), .val (.int (5 : Int32)), .val (.ref bz1), .val (.int (1 : Int32))] [(.int (5 : Int32)), (.long (10 : Int64)), (.ref b1), (.int (1 : Int32)), (.ref bz1)]))
  refine OGo.st (fun _ k_ => XS.i2l X17.here hx rfl (hb hby own_d_prog_120_method_5_code_22) rfl k_) ?_
  show OGo p.tables e below _ (T17.setTop (mkF m 23 #[.val (.ref a1), .val (.int (5 : Int32)), .val (.ref bz1), .val (.int (1 : Int32))] [(.long (5 : Int32).toInt64), (.long (10 : Int64)), (.ref b1), (.int (1 : Int32)), (.ref bz1)]))
  refine OGo.st (fun _ k_ => XS.lsub X17.here hx rfl (hb hby own_d_prog_120_method_5_code_23) rfl k_) ?_
  show OGo p.tables e below _ (T17.setTop (mkF m 24 #[.val (.ref a1), .val (.int (5 : Int32)), .val (.ref bz1), .val (.int (1 : Int32))] [(.long ((10 : Int64) - (5 : Int32).toInt64)), (.ref b1), (.int (1 : Int32)), (.ref bz1)]))
  refine OGo.st (fun _ k_ => XS.iloadN X17.here hx rfl (hb hby own_d_prog_120_method_5_code_24) rfl k_) ?_
  show OGo p.tables e below _ (T17.setTop (mkF m 25 #[.val (.ref a1), .val (.int (5 : Int32)), .val (.ref bz1), .val (.int (1 : Int32))] [(.int (1 : Int32)), (.long ((10 : Int64) - (5 : Int32).toInt64)), (.ref b1), (.int (1 : Int32)), (.ref bz1)]))
  refine OGo.st (fun _ k_ => XS.i2l X17.here hx rfl (hb hby own_d_prog_120_method_5_code_25) rfl k_) ?_
  show OGo p.tables e below _ (T17.setTop (mkF m 26 #[.val (.ref a1), .val (.int (5 : Int32)), .val (.ref bz1), .val (.int (1 : Int32))] [(.long (1 : Int32).toInt64), (.long ((10 : Int64) - (5 : Int32).toInt64)), (.ref b1), (.int (1 : Int32)), (.ref bz1)]))
  refine OGo.st (fun _ k_ => XS.ladd X17.here hx rfl (hb hby own_d_prog_120_method_5_code_26) rfl k_) ?_
  show OGo p.tables e below _ (T17.setTop (mkF m 27 #[.val (.ref a1), .val (.int (5 : Int32)), .val (.ref bz1), .val (.int (1 : Int32))] [(.long (((10 : Int64) - (5 : Int32).toInt64) + (1 : Int32).toInt64)), (.ref b1), (.int (1 : Int32)), (.ref bz1)]))
  refine OGo.st (fun _ k_ => XS.aloadN X17.here hx rfl (hb hby own_d_prog_120_method_5_code_27) rfl rfl k_) ?_
  show OGo p.tables e below _ (T17.setTop (mkF m 28 #[.val (.ref a1), .val (.int (5 : Int32)), .val (.ref bz1), .val (.int (1 : Int32))] [(.ref a1), (.long (((10 : Int64) - (5 : Int32).toInt64) + (1 : Int32).toInt64)), (.ref b1), (.int (1 : Int32)), (.ref bz1)]))
  obtain ⟨T18, X18, ez18, st18⟩ := getF X17 hx hZ hown (host := "") (Or.inl (hw _ (List.mem_of_getElem? (i := 12) rfl))) Via.refl ez17 F_12 (g := (mkF m 28 #[.val (.ref a1), .val (.int (5 : Int32)), .val (.ref bz1), .val (.int (1 : Int32))] [(.ref a1), (.long (((10 : Int64) - (5 : Int32).toInt64) + (1 : Int32).toInt64)), (.ref b1), (.int (1 : Int32)), (.ref bz1)])) rfl rfl (hb hby own_d_prog_120_method_5_code_28)
  refine OGo.st st18 ?_
  show OGo p.tables e below _ (T18.setTop (mkF m 31 #[.val (.ref a1), .val (.int (5 : Int32)), .val (.ref bz1), .val (.int (1 : Int32))] [(.ref b1), (.long (((10 : Int64) - (5 : Int32).toInt64) + (1 : Int32).toInt64)), (.ref b1), (.int (1 : Int32)), (.ref bz1)]))
  have qz19 := own_alen X18 hx hZ ez18 Af_14 (g := (mkF m 31 #[.val (.ref a1), .val (.int (5 : Int32)), .val (.ref bz1), .val (.int (1 : Int32))] [(.ref b1), (.long (((10 : Int64) - (5 : Int32).toInt64) + (1 : Int32).toInt64)), (.ref b1), (.int (1 : Int32)), (.ref bz1)])) rfl rfl (hb hby own_d_prog_120_method_5_code_31)
  refine OGo.st qz19 ?_
  show OGo p.tables e below _ (T18.setTop (mkF m 32 #[.val (.ref a1), .val (.int (5 : Int32)), .val (.ref bz1), .val (.int (1 : Int32))] [(.int (10 : Int32)), (.long (((10 : Int64) - (5 : Int32).toInt64) + (1 : Int32).toInt64)), (.ref b1), (.int (1 : Int32)), (.ref bz1)]))
  refine OGo.st (fun _ k_ => XS.i2l X18.here hx rfl (hb hby own_d_prog_120_method_5_code_32) rfl k_) ?_
  show OGo p.tables e below _ (T18.setTop (mkF m 33 #[.val (.ref a1), .val (.int (5 : Int32)), .val (.ref bz1), .val (.int (1 : Int32))] [(.long (10 : Int32).toInt64), (.long (((10 : Int64) - (5 : Int32).toInt64) + (1 : Int32).toInt64)), (.ref b1), (.int (1 : Int32)), (.ref bz1)]))
  refine OGo.st (fun _ k_ => XS.lrem X18.here hx rfl (hb hby own_d_prog_120_method_5_code_33) rfl (by decide) k_) ?_
  show OGo p.tables e below _ (T18.setTop (mkF m 34 #[.val (.ref a1), .val (.int (5 : Int32)), .val (.ref bz1), .val (.int (1 : Int32))] [(.long ((((10 : Int64) - (5 : Int32).toInt64) + (1 : Int32).toInt64) - ((((10 : Int64) - (5 : Int32).toInt64) + (1 : Int32).toInt64) / (10 : Int32).toInt64) * (10 : Int32).toInt64)), (.ref b1), (.int (1 : Int32)), (.ref bz1)]))
  refine OGo.st (fun _ k_ => XS.l2i X18.here hx rfl (hb hby own_d_prog_120_method_5_code_34) rfl k_) ?_
  show OGo p.tables e below _ (T18.setTop (mkF m 35 #[.val (.ref a1), .val (.int (5 : Int32)), .val (.ref bz1), .val (.int (1 : Int32))] [(.int ((((10 : Int64) - (5 : Int32).toInt64) + (1 : Int32).toInt64) - ((((10 : Int64) - (5 : Int32).toInt64) + (1 : Int32).toInt64) / (10 : Int32).toInt64) * (10 : Int32).toInt64).toInt32), (.ref b1), (.int (1 : Int32)), (.ref bz1)]))
  have qz20 := own_ldJ X18 hx hZ ez18 Af_14 (j := ((((10 : Int64) - (5 : Int32).toInt64) + (1 : Int32).toInt64) - ((((10 : Int64) - (5 : Int32).toInt64) + (1 : Int32).toInt64) / (10 : Int32).toInt64) * (10 : Int32).toInt64).toInt32) (v := (w 6)) (by decide) (congrArg (own_L w) (show _ = 6 by decide)) (g := (mkF m 35 #[.val (.ref a1), .val (.int (5 : Int32)), .val (.ref bz1), .val (.int (1 : Int32))] [(.int ((((10 : Int64) - (5 : Int32).toInt64) + (1 : Int32).toInt64) - ((((10 : Int64) - (5 : Int32).toInt64) + (1 : Int32).toInt64) / (10 : Int32).toInt64) * (10 : Int32).toInt64).toInt32), (.ref b1), (.int (1 : Int32)), (.ref bz1)])) rfl rfl (hb hby own_d_prog_120_method_5_code_35)
  refine OGo.st qz20 ?_
  show OGo p.tables e below _ (T18.setTop (mkF m 36 #[.val (.ref a1), .val (.int (5 : Int32)), .val (.ref bz1), .val (.int (1 : Int32))] [(.long (w 6)), (.int (1 : Int32)), (.ref bz1)]))
  obtain ⟨T21, hz21, X21, ez21, W21, V21, st21⟩ := own_stJ X18 hx hZ ez18 V11 (j := (1 : Int32)) (by decide)  (g := (mkF m 36 #[.val (.ref a1), .val (.int (5 : Int32)), .val (.ref bz1), .val (.int (1 : Int32))] [(.long (w 6)), (.int (1 : Int32)), (.ref bz1)])) rfl rfl (hb hby own_d_prog_120_method_5_code_36)
  have F_22 := F_12.other W21 (Or.inl (Nat.ne_of_lt lt_a1_bz1))
  have F_23 := F_13.other W21 (Or.inl (Nat.ne_of_lt lt_a1_bz1))
  have Af_24 := Af_14.other W21 (Nat.ne_of_lt lt_b1_bz1)
  have N21 := Fr.snoc X21 N11 g_bz1
  have K_25 : Keep h0 hz21 [] := K_15.wr W21 (Or.inr sz_bz1)
  refine OGo.st st21 ?_
  show OGo p.tables e below _ (T21.setTop (mkF m 37 #[.val (.ref a1), .val (.int (5 : Int32)), .val (.ref bz1), .val (.int (1 : Int32))] []))
  refine OGo.st (fun _ k_ => XS.iinc X21.here hx rfl (hb hby own_d_prog_120_method_5_code_37) rfl (l' := #[.val (.ref a1), .val (.int (5 : Int32)), .val (.ref bz1), .val (.int (2 : Int32))]) rfl k_) ?_
  show OGo p.tables e below _ (T21.setTop (mkF m 40 #[.val (.ref a1), .val (.int (5 : Int32)), .val (.ref bz1), .val (.int (2 : Int32))] []))
  refine OGo.st (fun _ k_ => XS.goto X21.here hx rfl (pc0 := 40) (pc' := 6) rfl (hb hby own_d_prog_120_method_5_code_40) (by decide) (by decide) k_) ?_
  show OGo p.tables e below _ (T21.setTop (mkF m 6 #[.val (.ref a1), .val (.int (5 : Int32)), .val (.ref bz1), .val (.int (2 : Int32))] []))
  refine OGo.st (fun _ k_ => XS.iloadN X21.here hx rfl (hb hby own_d_prog_120_method_5_code_6) rfl k_) ?_
  show OGo p.tables e below _ (T21.setTop (mkF m 7 #[.val (.ref a1), .val (.int (5 : Int32)), .val (.ref bz1), .val (.int (2 : Int32))] [(.int (2 : Int32))]))
  refine OGo.st (fun _ k_ => XS.iconst X21.here hx rfl (hb hby own_d_prog_120_method_5_code_7) k_) ?_
  show OGo p.tables e below _ (T21.setTop (mkF m 8 #[.val (.ref a1), .val (.int (5 : Int32)), .val (.ref bz1), .val (.int (2 : Int32))] [(.int (5 : Int32)), (.int (2 : Int32))]))
  refine OGo.st (fun _ k_ => XS.icmpNo X21.here hx rfl (hb hby own_d_prog_120_method_5_code_8) rfl (XT.ii_ge_f (by decide)) k_) ?_
  show OGo p.tables e below _ (T21.setTop (mkF m 11 #[.val (.ref a1), .val (.int (5 : Int32)), .val (.ref bz1), .val (.int (2 : Int32))] []))
  refine OGo.st (fun _ k_ => XS.aloadN X21.here hx rfl (hb hby own_d_prog_120_method_5_code_11) rfl rfl k_) ?_
  show OGo p.tables e below _ (T21.setTop (mkF m 12 #[.val (.ref a1), .val (.int (5 : Int32)), .val (.ref bz1), .val (.int (2 : Int32))] [(.ref bz1)]))
  refine OGo.st (fun _ k_ => XS.iloadN X21.here hx rfl (hb hby own_d_prog_120_method_5_code_12) rfl k_) ?_
  show OGo p.tables e below _ (T21.setTop (mkF m 13 #[.val (.ref a1), .val (.int (5 : Int32)), .val (.ref bz1), .val (.int (2 : Int32))] [(.int (2 : Int32)), (.ref bz1)]))
  refine OGo.st (fun _ k_ => XS.aloadN X21.here hx rfl (hb hby own_d_prog_120_method_5_code_13) rfl rfl k_) ?_
  show OGo p.tables e below _ (T21.setTop (mkF m 14 #[.val (.ref a1), .val (.int (5 : Int32)), .val (.ref bz1), .val (.int (2 : Int32))] [(.ref a1), (.int (2 : Int32)), (.ref bz1)]))
  obtain ⟨T26, X26, ez26, st26⟩ := getF X21 hx hZ hown (host := "") (Or.inl (hw _ (List.mem_of_getElem? (i := 12) rfl))) Via.refl ez21 F_22 (g := (mkF m 14 #[.val (.ref a1), .val (.int (5 : Int32)), .val (.ref bz1), .val (.int (2 : Int32))] [(.ref a1), (.int (2 : Int32)), (.ref bz1)])) rfl rfl (hb hby own_d_prog_120_method_5_code_14)
  refine OGo.st st26 ?_
  show OGo p.tables e below _ (T26.setTop (mkF m 17 #[.val (.ref a1), .val (.int (5 : Int32)), .val (.ref bz1), .val (.int (2 : Int32))] [(.ref b1), (.int (2 : Int32)), (.ref bz1)]))
  refine OGo.st (fun _ k_ => XS.aloadN X26.here hx rfl (hb hby own_d_prog_120_method_5_code_17) rfl rfl k_) ?_
  show OGo p.tables e below _ (T26.setTop (mkF m 18 #[.val (.ref a1), .val (.int (5 : Int32)), .val (.ref bz1), .val (.int (2 : Int32))] [(.ref a1), (.ref b1), (.int (2 : Int32)), (.ref bz1)]))
  obtain ⟨T27, X27, ez27, st27⟩ := getF X26 hx hZ hown (host := "") (Or.inl (hw _ (List.mem_of_getElem? (i := 29) rfl))) Via.refl ez26 F_23 (g := (mkF m 18 #[.val (.ref a1), .val (.int (5 : Int32)), .val (.ref bz1), .val (.int (2 : Int32))] [(.ref a1), (.ref b1), (.int (2 : Int32)), (.ref bz1)])) rfl rfl (hb hby own_d_prog_120_method_5_code_18)
  refine OGo.st st27 ?_
  show OGo p.tables e below _ (T27.setTop (mkF m 21 #[.val (.ref a1), .val (.int (5 : Int32)), .val (.ref bz1), .val (.int (2 : Int32))] [(.long (10 : Int64)), (.ref b1), (.int (2 : Int32)), (.ref bz1)]))
  refine OGo.st (fun _ k_ => XS.iloadN X27.here hx rfl (hb hby own_d_prog_120_method_5_code_21) rfl k_) ?_
  show OGo p.tables e below _ (T27.setTop (mkF m 22 #[.val (.ref a1), .val (.int (5 : Int32)), .val (.ref bz1), .val (.int (2 : Int32))] [(.int (5 : Int32)), (.long (10 : Int64)), (.ref b1), (.int (2 : Int32)), (.ref bz1)]))
  refine OGo.st (fun _ k_ => XS.i2l X27.here hx rfl (hb hby own_d_prog_120_method_5_code_22) rfl k_) ?_
  show OGo p.tables e below _ (T27.setTop (mkF m 23 #[.val (.ref a1), .val (.int (5 : Int32)), .val (.ref bz1), .val (.int (2 : Int32))] [(.long (5 : Int32).toInt64), (.long (10 : Int64)), (.ref b1), (.int (2 : Int32)), (.ref bz1)]))
  refine OGo.st (fun _ k_ => XS.lsub X27.here hx rfl (hb hby own_d_prog_120_method_5_code_23) rfl k_) ?_
  show OGo p.tables e below _ (T27.setTop (mkF m 24 #[.val (.ref a1), .val (.int (5 : Int32)), .val (.ref bz1), .val (.int (2 : Int32))] [(.long ((10 : Int64) - (5 : Int32).toInt64)), (.ref b1), (.int (2 : Int32)), (.ref bz1)]))
  refine OGo.st (fun _ k_ => XS.iloadN X27.here hx rfl (hb hby own_d_prog_120_method_5_code_24) rfl k_) ?_
  show OGo p.tables e below _ (T27.setTop (mkF m 25 #[.val (.ref a1), .val (.int (5 : Int32)), .val (.ref bz1), .val (.int (2 : Int32))] [(.int (2 : Int32)), (.long ((10 : Int64) - (5 : Int32).toInt64)), (.ref b1), (.int (2 : Int32)), (.ref bz1)]))
  refine OGo.st (fun _ k_ => XS.i2l X27.here hx rfl (hb hby own_d_prog_120_method_5_code_25) rfl k_) ?_
  show OGo p.tables e below _ (T27.setTop (mkF m 26 #[.val (.ref a1), .val (.int (5 : Int32)), .val (.ref bz1), .val (.int (2 : Int32))] [(.long (2 : Int32).toInt64), (.long ((10 : Int64) - (5 : Int32).toInt64)), (.ref b1), (.int (2 : Int32)), (.ref bz1)]))
  refine OGo.st (fun _ k_ => XS.ladd X27.here hx rfl (hb hby own_d_prog_120_method_5_code_26) rfl k_) ?_
  show OGo p.tables e below _ (T27.setTop (mkF m 27 #[.val (.ref a1), .val (.int (5 : Int32)), .val (.ref bz1), .val (.int (2 : Int32))] [(.long (((10 : Int64) - (5 : Int32).toInt64) + (2 : Int32).toInt64)), (.ref b1), (.int (2 : Int32)), (.ref bz1)]))
  refine OGo.st (fun _ k_ => XS.aloadN X27.here hx rfl (hb hby own_d_prog_120_method_5_code_27) rfl rfl k_) ?_
  show OGo p.tables e below _ (T27.setTop (mkF m 28 #[.val (.ref a1), .val (.int (5 : Int32)), .val (.ref bz1), .val (.int (2 : Int32))] [(.ref a1), (.long (((10 : Int64) - (5 : Int32).toInt64) + (2 : Int32).toInt64)), (.ref b1), (.int (2 : Int32)), (.ref bz1)]))
  obtain ⟨T28, X28, ez28, st28⟩ := getF X27 hx hZ hown (host := "") (Or.inl (hw _ (List.mem_of_getElem? (i := 12) rfl))) Via.refl ez27 F_22 (g := (mkF m 28 #[.val (.ref a1), .val (.int (5 : Int32)), .val (.ref bz1), .val (.int (2 : Int32))] [(.ref a1), (.long (((10 : Int64) - (5 : Int32).toInt64) + (2 : Int32).toInt64)), (.ref b1), (.int (2 : Int32)), (.ref bz1)])) rfl rfl (hb hby own_d_prog_120_method_5_code_28)
  refine OGo.st st28 ?_
  show OGo p.tables e below _ (T28.setTop (mkF m 31 #[.val (.ref a1), .val (.int (5 : Int32)), .val (.ref bz1), .val (.int (2 : Int32))] [(.ref b1), (.long (((10 : Int64) - (5 : Int32).toInt64) + (2 : Int32).toInt64)), (.ref b1), (.int (2 : Int32)), (.ref bz1)]))
  have qz29 := own_alen X28 hx hZ ez28 Af_24 (g := (mkF m 31 #[.val (.ref a1), .val (.int (5 : Int32)), .val (.ref bz1), .val (.int (2 : Int32))] [(.ref b1), (.long (((10 : Int64) - (5 : Int32).toInt64) + (2 : Int32).toInt64)), (.ref b1), (.int (2 : Int32)), (.ref bz1)])) rfl rfl (hb hby own_d_prog_120_method_5_code_31)
  refine OGo.st qz29 ?_
  show OGo p.tables e below _ (T28.setTop (mkF m 32 #[.val (.ref a1), .val (.int (5 : Int32)), .val (.ref bz1), .val (.int (2 : Int32))] [(.int (10 : Int32)), (.long (((10 : Int64) - (5 : Int32).toInt64) + (2 : Int32).toInt64)), (.ref b1), (.int (2 : Int32)), (.ref bz1)]))
  refine OGo.st (fun _ k_ => XS.i2l X28.here hx rfl (hb hby own_d_prog_120_method_5_code_32) rfl k_) ?_
  show OGo p.tables e below _ (T28.setTop (mkF m 33 #[.val (.ref a1), .val (.int (5 : Int32)), .val (.ref bz1), .val (.int (2 : Int32))] [(.long (10 : Int32).toInt64), (.long (((10 : Int64) - (5 : Int32).toInt64) + (2 : Int32).toInt64)), (.ref b1), (.int (2 : Int32)), (.ref bz1)]))
  refine OGo.st (fun _ k_ => XS.lrem X28.here hx rfl (hb hby own_d_prog_120_method_5_code_33) rfl (by decide) k_) ?_
  show OGo p.tables e below _ (T28.setTop (mkF m 34 #[.val (.ref a1), .val (.int (5 : Int32)), .val (.ref bz1), .val (.int (2 : Int32))] [(.long ((((10 : Int64) - (5 : Int32).toInt64) + (2 : Int32).toInt64) - ((((10 : Int64) - (5 : Int32).toInt64) + (2 : Int32).toInt64) / (10 : Int32).toInt64) * (10 : Int32).toInt64)), (.ref b1), (.int (2 : Int32)), (.ref bz1)]))
  refine OGo.st (fun _ k_ => XS.l2i X28.here hx rfl (hb hby own_d_prog_120_method_5_code_34) rfl k_) ?_
  show OGo p.tables e below _ (T28.setTop (mkF m 35 #[.val (.ref a1), .val (.int (5 : Int32)), .val (.ref bz1), .val (.int (2 : Int32))] [(.int ((((10 : Int64) - (5 : Int32).toInt64) + (2 : Int32).toInt64) - ((((10 : Int64) - (5 : Int32).toInt64) + (2 : Int32).toInt64) / (10 : Int32).toInt64) * (10 : Int32).toInt64).toInt32), (.ref b1), (.int (2 : Int32)), (.ref bz1)]))
  have qz30 := own_ldJ X28 hx hZ ez28 Af_24 (j := ((((10 : Int64) - (5 : Int32).toInt64) + (2 : Int32).toInt64) - ((((10 : Int64) - (5 : Int32).toInt64) + (2 : Int32).toInt64) / (10 : Int32).toInt64) * (10 : Int32).toInt64).toInt32) (v := (w 7)) (by decide) (congrArg (own_L w) (show _ = 7 by decide)) (g := (mkF m 35 #[.val (.ref a1), .val (.int (5 : Int32)), .val (.ref bz1), .val (.int (2 : Int32))] [(.int ((((10 : Int64) - (5 : Int32).toInt64) + (2 : Int32).toInt64) - ((((10 : Int64) - (5 : Int32).toInt64) + (2 : Int32).toInt64) / (10 : Int32).toInt64) * (10 : Int32).toInt64).toInt32), (.ref b1), (.int (2 : Int32)), (.ref bz1)])) rfl rfl (hb hby own_d_prog_120_method_5_code_35)
  refine OGo.st qz30 ?_
  show OGo p.tables e below _ (T28.setTop (mkF m 36 #[.val (.ref a1), .val (.int (5 : Int32)), .val (.ref bz1), .val (.int (2 : Int32))] [(.long (w 7)), (.int (2 : Int32)), (.ref bz1)]))
  obtain ⟨T31, hz31, X31, ez31, W31, V31, st31⟩ := own_stJ X28 hx hZ ez28 V21 (j := (2 : Int32)) (by decide)  (g := (mkF m 36 #[.val (.ref a1), .val (.int (5 : Int32)), .val (.ref bz1), .val (.int (2 : Int32))] [(.long (w 7)), (.int (2 : Int32)), (.ref bz1)])) rfl rfl (hb hby own_d_prog_120_method_5_code_36)
  have F_32 := F_22.other W31 (Or.inl (Nat.ne_of_lt lt_a1_bz1))
  have F_33 := F_23.other W31 (Or.inl (Nat.ne_of_lt lt_a1_bz1))
  have Af_34 := Af_24.other W31 (Nat.ne_of_lt lt_b1_bz1)
  have N31 := Fr.snoc X31 N21 g_bz1
  have K_35 : Keep h0 hz31 [] := K_25.wr W31 (Or.inr sz_bz1)
  refine OGo.st st31 ?_
  show OGo p.tables e below _ (T31.setTop (mkF m 37 #[.val (.ref a1), .val (.int (5 : Int32)), .val (.ref bz1), .val (.int (2 : Int32))] []))
  refine OGo.st (fun _ k_ => XS.iinc X31.here hx rfl (hb hby own_d_prog_120_method_5_code_37) rfl (l' := #[.val (.ref a1), .val (.int (5 : Int32)), .val (.ref bz1), .val (.int (3 : Int32))]) rfl k_) ?_
  show OGo p.tables e below _ (T31.setTop (mkF m 40 #[.val (.ref a1), .val (.int (5 : Int32)), .val (.ref bz1), .val (.int (3 : Int32))] []))
  refine OGo.st (fun _ k_ => XS.goto X31.here hx rfl (pc0 := 40) (pc' := 6) rfl (hb hby own_d_prog_120_method_5_code_40) (by decide) (by decide) k_) ?_
  show OGo p.tables e below _ (T31.setTop (mkF m 6 #[.val (.ref a1), .val (.int (5 : Int32)), .val (.ref bz1), .val (.int (3 : Int32))] []))
  refine OGo.st (fun _ k_ => XS.iloadN X31.here hx rfl (hb hby own_d_prog_120_method_5_code_6) rfl k_) ?_
  show OGo p.tables e below _ (T31.setTop (mkF m 7 #[.val (.ref a1), .val (.int (5 : Int32)), .val (.ref bz1), .val (.int (3 : Int32))] [(.int (3 : Int32))]))
  refine OGo.st (fun _ k_ => XS.iconst X31.here hx rfl (hb hby own_d_prog_120_method_5_code_7) k_) ?_
  show OGo p.tables e below _ (T31.setTop (mkF m 8 #[.val (.ref a1), .val (.int (5 : Int32)), .val (.ref bz1), .val (.int (3 : Int32))] [(.int (5 : Int32)), (.int (3 : Int32))]))
  refine OGo.st (fun _ k_ => XS.icmpNo X31.here hx rfl (hb hby own_d_prog_120_method_5_code_8) rfl (XT.ii_ge_f (by decide)) k_) ?_
  show OGo p.tables e below _ (T31.setTop (mkF m 11 #[.val (.ref a1), .val (.int (5 : Int32)), .val (.ref bz1), .val (.int (3 : Int32))] []))
  refine OGo.st (fun _ k_ => XS.aloadN X31.here hx rfl (hb hby own_d_prog_120_method_5_code_11) rfl rfl k_) ?_
  show OGo p.tables e below _ (T31.setTop (mkF m 12 #[.val (.ref a1), .val (.int (5 : Int32)), .val (.ref bz1), .val (.int (3 : Int32))] [(.ref bz1)]))
  refine OGo.st (fun _ k_ => XS.iloadN X31.here hx rfl (hb hby own_d_prog_120_method_5_code_12) rfl k_) ?_
  show OGo p.tables e below _ (T31.setTop (mkF m 13 #[.val (.ref a1), .val (.int (5 : Int32)), .val (.ref bz1), .val (.int (3 : Int32))] [(.int (3 : Int32)), (.ref bz1)]))
  refine OGo.st (fun _ k_ => XS.aloadN X31.here hx rfl (hb hby own_d_prog_120_method_5_code_13) rfl rfl k_) ?_
  show OGo p.tables e below _ (T31.setTop (mkF m 14 #[.val (.ref a1), .val (.int (5 : Int32)), .val (.ref bz1), .val (.int (3 : Int32))] [(.ref a1), (.int (3 : Int32)), (.ref bz1)]))
  obtain ⟨T36, X36, ez36, st36⟩ := getF X31 hx hZ hown (host := "") (Or.inl (hw _ (List.mem_of_getElem? (i := 12) rfl))) Via.refl ez31 F_32 (g := (mkF m 14 #[.val (.ref a1), .val (.int (5 : Int32)), .val (.ref bz1), .val (.int (3 : Int32))] [(.ref a1), (.int (3 : Int32)), (.ref bz1)])) rfl rfl (hb hby own_d_prog_120_method_5_code_14)
  refine OGo.st st36 ?_
  show OGo p.tables e below _ (T36.setTop (mkF m 17 #[.val (.ref a1), .val (.int (5 : Int32)), .val (.ref bz1), .val (.int (3 : Int32))] [(.ref b1), (.int (3 : Int32)), (.ref bz1)]))
  refine OGo.st (fun _ k_ => XS.aloadN X36.here hx rfl (hb hby own_d_prog_120_method_5_code_17) rfl rfl k_) ?_
  show OGo p.tables e below _ (T36.setTop (mkF m 18 #[.val (.ref a1), .val (.int (5 : Int32)), .val (.ref bz1), .val (.int (3 : Int32))] [(.ref a1), (.ref b1), (.int (3 : Int32)), (.ref bz1)]))
  obtain ⟨T37, X37, ez37, st37⟩ := getF X36 hx hZ hown (host := "") (Or.inl (hw _ (List.mem_of_getElem? (i := 29) rfl))) Via.refl ez36 F_33 (g := (mkF m 18 #[.val (.ref a1), .val (.int (5 : Int32)), .val (.ref bz1), .val (.int (3 : Int32))] [(.ref a1), (.ref b1), (.int (3 : Int32)), (.ref bz1)])) rfl rfl (hb hby own_d_prog_120_method_5_code_18)
  refine OGo.st st37 ?_
  show OGo p.tables e below _ (T37.setTop (mkF m 21 #[.val (.ref a1), .val (.int (5 : Int32)), .val (.ref bz1), .val (.int (3 : Int32))] [(.long (10 : Int64)), (.ref b1), (.int (3 : Int32)), (.ref bz1)]))
  refine OGo.st (fun _ k_ => XS.iloadN X37.here hx rfl (hb hby own_d_prog_120_method_5_code_21) rfl k_) ?_
  show OGo p.tables e below _ (T37.setTop (mkF m 22 #[.val (.ref a1), .val (.int (5 : Int32)), .val (.ref bz1), .val (.int (3 : Int32))] [(.int (5 : Int32)), (.long (10 : Int64)), (.ref b1), (.int (3 : Int32)), (.ref bz1)]))
  refine OGo.st (fun _ k_ => XS.i2l X37.here hx rfl (hb hby own_d_prog_120_method_5_code_22) rfl k_) ?_
  show OGo p.tables e below _ (T37.setTop (mkF m 23 #[.val (.ref a1), .val (.int (5 : Int32)), .val (.ref bz1), .val (.int (3 : Int32))] [(.long (5 : Int32).toInt64), (.long (10 : Int64)), (.ref b1), (.int (3 : Int32)), (.ref bz1)]))
  refine OGo.st (fun _ k_ => XS.lsub X37.here hx rfl (hb hby own_d_prog_120_method_5_code_23) rfl k_) ?_
  show OGo p.tables e below _ (T37.setTop (mkF m 24 #[.val (.ref a1), .val (.int (5 : Int32)), .val (.ref bz1), .val (.int (3 : Int32))] [(.long ((10 : Int64) - (5 : Int32).toInt64)), (.ref b1), (.int (3 : Int32)), (.ref bz1)]))
  refine OGo.st (fun _ k_ => XS.iloadN X37.here hx rfl (hb hby own_d_prog_120_method_5_code_24) rfl k_) ?_
  show OGo p.tables e below _ (T37.setTop (mkF m 25 #[.val (.ref a1), .val (.int (5 : Int32)), .val (.ref bz1), .val (.int (3 : Int32))] [(.int (3 : Int32)), (.long ((10 : Int64) - (5 : Int32).toInt64)), (.ref b1), (.int (3 : Int32)), (.ref bz1)]))
  refine OGo.st (fun _ k_ => XS.i2l X37.here hx rfl (hb hby own_d_prog_120_method_5_code_25) rfl k_) ?_
  show OGo p.tables e below _ (T37.setTop (mkF m 26 #[.val (.ref a1), .val (.int (5 : Int32)), .val (.ref bz1), .val (.int (3 : Int32))] [(.long (3 : Int32).toInt64), (.long ((10 : Int64) - (5 : Int32).toInt64)), (.ref b1), (.int (3 : Int32)), (.ref bz1)]))
  refine OGo.st (fun _ k_ => XS.ladd X37.here hx rfl (hb hby own_d_prog_120_method_5_code_26) rfl k_) ?_
  show OGo p.tables e below _ (T37.setTop (mkF m 27 #[.val (.ref a1), .val (.int (5 : Int32)), .val (.ref bz1), .val (.int (3 : Int32))] [(.long (((10 : Int64) - (5 : Int32).toInt64) + (3 : Int32).toInt64)), (.ref b1), (.int (3 : Int32)), (.ref bz1)]))
  refine OGo.st (fun _ k_ => XS.aloadN X37.here hx rfl (hb hby own_d_prog_120_method_5_code_27) rfl rfl k_) ?_
  show OGo p.tables e below _ (T37.setTop (mkF m 28 #[.val (.ref a1), .val (.int (5 : Int32)), .val (.ref bz1), .val (.int (3 : Int32))] [(.ref a1), (.long (((10 : Int64) - (5 : Int32).toInt64) + (3 : Int32).toInt64)), (.ref b1), (.int (3 : Int32)), (.ref bz1)]))
  obtain ⟨T38, X38, ez38, st38⟩ := getF X37 hx hZ hown (host := "") (Or.inl (hw _ (List.mem_of_getElem? (i := 12) rfl))) Via.refl ez37 F_32 (g := (mkF m 28 #[.val (.ref a1), .val (.int (5 : Int32)), .val (.ref bz1), .val (.int (3 : Int32))] [(.ref a1), (.long (((10 : Int64) - (5 : Int32).toInt64) + (3 : Int32).toInt64)), (.ref b1), (.int (3 : Int32)), (.ref bz1)])) rfl rfl (hb hby own_d_prog_120_method_5_code_28)
  refine OGo.st st38 ?_
  show OGo p.tables e below _ (T38.setTop (mkF m 31 #[.val (.ref a1), .val (.int (5 : Int32)), .val (.ref bz1), .val (.int (3 : Int32))] [(.ref b1), (.long (((10 : Int64) - (5 : Int32).toInt64) + (3 : Int32).toInt64)), (.ref b1), (.int (3 : Int32)), (.ref bz1)]))
  have qz39 := own_alen X38 hx hZ ez38 Af_34 (g := (mkF m 31 #[.val (.ref a1), .val (.int (5 : Int32)), .val (.ref bz1), .val (.int (3 : Int32))] [(.ref b1), (.long (((10 : Int64) - (5 : Int32).toInt64) + (3 : Int32).toInt64)), (.ref b1), (.int (3 : Int32)), (.ref bz1)])) rfl rfl (hb hby own_d_prog_120_method_5_code_31)
  refine OGo.st qz39 ?_
  show OGo p.tables e below _ (T38.setTop (mkF m 32 #[.val (.ref a1), .val (.int (5 : Int32)), .val (.ref bz1), .val (.int (3 : Int32))] [(.int (10 : Int32)), (.long (((10 : Int64) - (5 : Int32).toInt64) + (3 : Int32).toInt64)), (.ref b1), (.int (3 : Int32)), (.ref bz1)]))
  refine OGo.st (fun _ k_ => XS.i2l X38.here hx rfl (hb hby own_d_prog_120_method_5_code_32) rfl k_) ?_
  show OGo p.tables e below _ (T38.setTop (mkF m 33 #[.val (.ref a1), .val (.int (5 : Int32)), .val (.ref bz1), .val (.int (3 : Int32))] [(.long (10 : Int32).toInt64), (.long (((10 : Int64) - (5 : Int32).toInt64) + (3 : Int32).toInt64)), (.ref b1), (.int (3 : Int32)), (.ref bz1)]))
  refine OGo.st (fun _ k_ => XS.lrem X38.here hx rfl (hb hby own_d_prog_120_method_5_code_33) rfl (by decide) k_) ?_
  show OGo p.tables e below _ (T38.setTop (mkF m 34 #[.val (.ref a1), .val (.int (5 : Int32)), .val (.ref bz1), .val (.int (3 : Int32))] [(.long ((((10 : Int64) - (5 : Int32).toInt64) + (3 : Int32).toInt64) - ((((10 : Int64) - (5 : Int32).toInt64) + (3 : Int32).toInt64) / (10 : Int32).toInt64) * (10 : Int32).toInt64)), (.ref b1), (.int (3 : Int32)), (.ref bz1)]))
  refine OGo.st (fun _ k_ => XS.l2i X38.here hx rfl (hb hby own_d_prog_120_method_5_code_34) rfl k_) ?_
  show OGo p.tables e below _ (T38.setTop (mkF m 35 #[.val (.ref a1), .val (.int (5 : Int32)), .val (.ref bz1), .val (.int (3 : Int32))] [(.int ((((10 : Int64) - (5 : Int32).toInt64) + (3 : Int32).toInt64) - ((((10 : Int64) - (5 : Int32).toInt64) + (3 : Int32).toInt64) / (10 : Int32).toInt64) * (10 : Int32).toInt64).toInt32), (.ref b1), (.int (3 : Int32)), (.ref bz1)]))
  have qz40 := own_ldJ X38 hx hZ ez38 Af_34 (j := ((((10 : Int64) - (5 : Int32).toInt64) + (3 : Int32).toInt64) - ((((10 : Int64) - (5 : Int32).toInt64) + (3 : Int32).toInt64) / (10 : Int32).toInt64) * (10 : Int32).toInt64).toInt32) (v := (w 8)) (by decide) (congrArg (own_L w) (show _ = 8 by decide)) (g := (mkF m 35 #[.val (.ref a1), .val (.int (5 : Int32)), .val (.ref bz1), .val (.int (3 : Int32))] [(.int ((((10 : Int64) - (5 : Int32).toInt64) + (3 : Int32).toInt64) - ((((10 : Int64) - (5 : Int32).toInt64) + (3 : Int32).toInt64) / (10 : Int32).toInt64) * (10 : Int32).toInt64).toInt32), (.ref b1), (.int (3 : Int32)), (.ref bz1)])) rfl rfl (hb hby own_d_prog_120_method_5_code_35)
  refine OGo.st qz40 ?_
  show OGo p.tables e below _ (T38.setTop (mkF m 36 #[.val (.ref a1), .val (.int (5 : Int32)), .val (.ref bz1), .val (.int (3 : Int32))] [(.long (w 8)), (.int (3 : Int32)), (.ref bz1)]))
  obtain ⟨T41, hz41, X41, ez41, W41, V41, st41⟩ := own_stJ X38 hx hZ ez38 V31 (j := (3 : Int32)) (by decide)  (g := (mkF m 36 #[.val (.ref a1), .val (.int (5 : Int32)), .val (.ref bz1), .val (.int (3 : Int32))] [(.long (w 8)), (.int (3 : Int32)), (.ref bz1)])) rfl rfl (hb hby own_d_prog_120_method_5_code_36)
  have F_42 := F_32.other W41 (Or.inl (Nat.ne_of_lt lt_a1_bz1))
  have F_43 := F_33.other W41 (Or.inl (Nat.ne_of_lt lt_a1_bz1))
  have Af_44 := Af_34.other W41 (Nat.ne_of_lt lt_b1_bz1)
  have N41 := Fr.snoc X41 N31 g_bz1
  have K_45 : Keep h0 hz41 [] := K_35.wr W41 (Or.inr sz_bz1)
  refine OGo.st st41 ?_
  show OGo p.tables e below _ (T41.setTop (mkF m 37 #[.val (.ref a1), .val (.int (5 : Int32)), .val (.ref bz1), .val (.int (3 : Int32))] []))
  refine OGo.st (fun _ k_ => XS.iinc X41.here hx rfl (hb hby own_d_prog_120_method_5_code_37) rfl (l' := #[.val (.ref a1), .val (.int (5 : Int32)), .val (.ref bz1), .val (.int (4 : Int32))]) rfl k_) ?_
  show OGo p.tables e below _ (T41.setTop (mkF m 40 #[.val (.ref a1), .val (.int (5 : Int32)), .val (.ref bz1), .val (.int (4 : Int32))] []))
  refine OGo.st (fun _ k_ => XS.goto X41.here hx rfl (pc0 := 40) (pc' := 6) rfl (hb hby own_d_prog_120_method_5_code_40) (by decide) (by decide) k_) ?_
  show OGo p.tables e below _ (T41.setTop (mkF m 6 #[.val (.ref a1), .val (.int (5 : Int32)), .val (.ref bz1), .val (.int (4 : Int32))] []))
  refine OGo.st (fun _ k_ => XS.iloadN X41.here hx rfl (hb hby own_d_prog_120_method_5_code_6) rfl k_) ?_
  show OGo p.tables e below _ (T41.setTop (mkF m 7 #[.val (.ref a1), .val (.int (5 : Int32)), .val (.ref bz1), .val (.int (4 : Int32))] [(.int (4 : Int32))]))
  refine OGo.st (fun _ k_ => XS.iconst X41.here hx rfl (hb hby own_d_prog_120_method_5_code_7) k_) ?_
  show OGo p.tables e below _ (T41.setTop (mkF m 8 #[.val (.ref a1), .val (.int (5 : Int32)), .val (.ref bz1), .val (.int (4 : Int32))] [(.int (5 : Int32)), (.int (4 : Int32))]))
  refine OGo.st (fun _ k_ => XS.icmpNo X41.here hx rfl (hb hby own_d_prog_120_method_5_code_8) rfl (XT.ii_ge_f (by decide)) k_) ?_
  show OGo p.tables e below _ (T41.setTop (mkF m 11 #[.val (.ref a1), .val (.int (5 : Int32)), .val (.ref bz1), .val (.int (4 : Int32))] []))
  refine OGo.st (fun _ k_ => XS.aloadN X41.here hx rfl (hb hby own_d_prog_120_method_5_code_11) rfl rfl k_) ?_
  show OGo p.tables e below _ (T41.setTop (mkF m 12 #[.val (.ref a1), .val (.int (5 : Int32)), .val (.ref bz1), .val (.int (4 : Int32))] [(.ref bz1)]))
  refine OGo.st (fun _ k_ => XS.iloadN X41.here hx rfl (hb hby own_d_prog_120_method_5_code_12) rfl k_) ?_
  show OGo p.tables e below _ (T41.setTop (mkF m 13 #[.val (.ref a1), .val (.int (5 : Int32)), .val (.ref bz1), .val (.int (4 : Int32))] [(.int (4 : Int32)), (.ref bz1)]))
  refine OGo.st (fun _ k_ => XS.aloadN X41.here hx rfl (hb hby own_d_prog_120_method_5_code_13) rfl rfl k_) ?_
  show OGo p.tables e below _ (T41.setTop (mkF m 14 #[.val (.ref a1), .val (.int (5 : Int32)), .val (.ref bz1), .val (.int (4 : Int32))] [(.ref a1), (.int (4 : Int32)), (.ref bz1)]))
  obtain ⟨T46, X46, ez46, st46⟩ := getF X41 hx hZ hown (host := "") (Or.inl (hw _ (List.mem_of_getElem? (i := 12) rfl))) Via.refl ez41 F_42 (g := (mkF m 14 #[.val (.ref a1), .val (.int (5 : Int32)), .val (.ref bz1), .val (.int (4 : Int32))] [(.ref a1), (.int (4 : Int32)), (.ref bz1)])) rfl rfl (hb hby own_d_prog_120_method_5_code_14)
  refine OGo.st st46 ?_
  show OGo p.tables e below _ (T46.setTop (mkF m 17 #[.val (.ref a1), .val (.int (5 : Int32)), .val (.ref bz1), .val (.int (4 : Int32))] [(.ref b1), (.int (4 : Int32)), (.ref bz1)]))
  refine OGo.st (fun _ k_ => XS.aloadN X46.here hx rfl (hb hby own_d_prog_120_method_5_code_17) rfl rfl k_) ?_
  show OGo p.tables e below _ (T46.setTop (mkF m 18 #[.val (.ref a1), .val (.int (5 : Int32)), .val (.ref bz1), .val (.int (4 : Int32))] [(.ref a1), (.ref b1), (.int (4 : Int32)), (.ref bz1)]))
  obtain ⟨T47, X47, ez47, st47⟩ := getF X46 hx hZ hown (host := "") (Or.inl (hw _ (List.mem_of_getElem? (i := 29) rfl))) Via.refl ez46 F_43 (g := (mkF m 18 #[.val (.ref a1), .val (.int (5 : Int32)), .val (.ref bz1), .val (.int (4 : Int32))] [(.ref a1), (.ref b1), (.int (4 : Int32)), (.ref bz1)])) rfl rfl (hb hby own_d_prog_120_method_5_code_18)
  refine OGo.st st47 ?_
  show OGo p.tables e below _ (T47.setTop (mkF m 21 #[.val (.ref a1), .val (.int (5 : Int32)), .val (.ref bz1), .val (.int (4 : Int32))] [(.long (10 : Int64)), (.ref b1), (.int (4 : Int32)), (.ref bz1)]))
  refine OGo.st (fun _ k_ => XS.iloadN X47.here hx rfl (hb hby own_d_prog_120_method_5_code_21) rfl k_) ?_
  show OGo p.tables e below _ (T47.setTop (mkF m 22 #[.val (.ref a1), .val (.int (5 : Int32)), .val (.ref bz1), .val (.int (4 : Int32))] [(.int (5 : Int32)), (.long (10 : Int64)), (.ref b1), (.int (4 : Int32)), (.ref bz1)]))
  refine OGo.st (fun _ k_ => XS.i2l X47.here hx rfl (hb hby own_d_prog_120_method_5_code_22) rfl k_) ?_
  show OGo p.tables e below _ (T47.setTop (mkF m 23 #[.val (.ref a1), .val (.int (5 : Int32)), .val (.ref bz1), .val (.int (4 : Int32))] [(.long (5 : Int32).toInt64), (.long (10 : Int64)), (.ref b1), (.int (4 : Int32)), (.ref bz1)]))
  refine OGo.st (fun _ k_ => XS.lsub X47.here hx rfl (hb hby own_d_prog_120_method_5_code_23) rfl k_) ?_
  show OGo p.tables e below _ (T47.setTop (mkF m 24 #[.val (.ref a1), .val (.int (5 : Int32)), .val (.ref bz1), .val (.int (4 : Int32))] [(.long ((10 : Int64) - (5 : Int32).toInt64)), (.ref b1), (.int (4 : Int32)), (.ref bz1)]))
  refine OGo.st (fun _ k_ => XS.iloadN X47.here hx rfl (hb hby own_d_prog_120_method_5_code_24) rfl k_) ?_
  show OGo p.tables e below _ (T47.setTop (mkF m 25 #[.val (.ref a1), .val (.int (5 : Int32)), .val (.ref bz1), .val (.int (4 : Int32))] [(.int (4 : Int32)), (.long ((10 : Int64) - (5 : Int32).toInt64)), (.ref b1), (.int (4 : Int32)), (.ref bz1)]))
  refine OGo.st (fun _ k_ => XS.i2l X47.here hx rfl (hb hby own_d_prog_120_method_5_code_25) rfl k_) ?_
  show OGo p.tables e below _ (T47.setTop (mkF m 26 #[.val (.ref a1), .val (.int (5 : Int32)), .val (.ref bz1), .val (.int (4 : Int32))] [(.long (4 : Int32).toInt64), (.long ((10 : Int64) - (5 : Int32).toInt64)), (.ref b1), (.int (4 : Int32)), (.ref bz1)]))
  refine OGo.st (fun _ k_ => XS.ladd X47.here hx rfl (hb hby own_d_prog_120_method_5_code_26) rfl k_) ?_
  show OGo p.tables e below _ (T47.setTop (mkF m 27 #[.val (.ref a1), .val (.int (5 : Int32)), .val (.ref bz1), .val (.int (4 : Int32))] [(.long (((10 : Int64) - (5 : Int32).toInt64) + (4 : Int32).toInt64)), (.ref b1), (.int (4 : Int32)), (.ref bz1)]))
  refine OGo.st (fun _ k_ => XS.aloadN X47.here hx rfl (hb hby own_d_prog_120_method_5_code_27) rfl rfl k_) ?_
  show OGo p.tables e below _ (T47.setTop (mkF m 28 #[.val (.ref a1), .val (.int (5 : Int32)), .val (.ref bz1), .val (.int (4 : Int32))] [(.ref a1), (.long (((10 : Int64) - (5 : Int32).toInt64) + (4 : Int32).toInt64)), (.ref b1), (.int (4 : Int32)), (.ref bz1)]))
  obtain ⟨T48, X48, ez48, st48⟩ := getF X47 hx hZ hown (host := "") (Or.inl (hw _ (List.mem_of_getElem? (i := 12) rfl))) Via.refl ez47 F_42 (g := (mkF m 28 #[.val (.ref a1), .val (.int (5 : Int32)), .val (.ref bz1), .val (.int (4 : Int32))] [(.ref a1), (.long (((10 : Int64) - (5 : Int32).toInt64) + (4 : Int32).toInt64)), (.ref b1), (.int (4 : Int32)), (.ref bz1)])) rfl rfl (hb hby own_d_prog_120_method_5_code_28)
  refine OGo.st st48 ?_
  show OGo p.tables e below _ (T48.setTop (mkF m 31 #[.val (.ref a1), .val (.int (5 : Int32)), .val (.ref bz1), .val (.int (4 : Int32))] [(.ref b1), (.long (((10 : Int64) - (5 : Int32).toInt64) + (4 : Int32).toInt64)), (.ref b1), (.int (4 : Int32)), (.ref bz1)]))
  have qz49 := own_alen X48 hx hZ ez48 Af_44 (g := (mkF m 31 #[.val (.ref a1), .val (.int (5 : Int32)), .val (.ref bz1), .val (.int (4 : Int32))] [(.ref b1), (.long (((10 : Int64) - (5 : Int32).toInt64) + (4 : Int32).toInt64)), (.ref b1), (.int (4 : Int32)), (.ref bz1)])) rfl rfl (hb hby own_d_prog_120_method_5_code_31)
  refine OGo.st qz49 ?_
  show OGo p.tables e below _ (T48.setTop (mkF m 32 #[.val (.ref a1), .val (.int (5 : Int32)), .val (.ref bz1), .val (.int (4 : Int32))] [(.int (10 : Int32)), (.long (((10 : Int64) - (5 : Int32).toInt64) + (4 : Int32).toInt64)), (.ref b1), (.int (4 : Int32)), (.ref bz1)]))
  refine OGo.st (fun _ k_ => XS.i2l X48.here hx rfl (hb hby own_d_prog_120_method_5_code_32) rfl k_) ?_
  show OGo p.tables e below _ (T48.setTop (mkF m 33 #[.val (.ref a1), .val (.int (5 : Int32)), .val (.ref bz1), .val (.int (4 : Int32))] [(.long (10 : Int32).toInt64), (.long (((10 : Int64) - (5 : Int32).toInt64) + (4 : Int32).toInt64)), (.ref b1), (.int (4 : Int32)), (.ref bz1)]))
  refine OGo.st (fun _ k_ => XS.lrem X48.here hx rfl (hb hby own_d_prog_120_method_5_code_33) rfl (by decide) k_) ?_
  show OGo p.tables e below _ (T48.setTop (mkF m 34 #[.val (.ref a1), .val (.int (5 : Int32)), .val (.ref bz1), .val (.int (4 : Int32))] [(.long ((((10 : Int64) - (5 : Int32).toInt64) + (4 : Int32).toInt64) - ((((10 : Int64) - (5 : Int32).toInt64) + (4 : Int32).toInt64) / (10 : Int32).toInt64) * (10 : Int32).toInt64)), (.ref b1), (.int (4 : Int32)), (.ref bz1)]))
  refine OGo.st (fun _ k_ => XS.l2i X48.here hx rfl (hb hby own_d_prog_120_method_5_code_34) rfl k_) ?_
  show OGo p.tables e below _ (T48.setTop (mkF m 35 #[.val (.ref a1), .val (.int (5 : Int32)), .val (.ref bz1), .val (.int (4 : Int32))] [(.int ((((10 : Int64) - (5 : Int32).toInt64) + (4 : Int32).toInt64) - ((((10 : Int64) - (5 : Int32).toInt64) + (4 : Int32).toInt64) / (10 : Int32).toInt64) * (10 : Int32).toInt64).toInt32), (.ref b1), (.int (4 : Int32)), (.ref bz1)]))
  have qz50 := own_ldJ X48 hx hZ ez48 Af_44 (j := ((((10 : Int64) - (5 : Int32).toInt64) + (4 : Int32).toInt64) - ((((10 : Int64) - (5 : Int32).toInt64) + (4 : Int32).toInt64) / (10 : Int32).toInt64) * (10 : Int32).toInt64).toInt32) (v := (w 9)) (by decide) (congrArg (own_L w) (show _ = 9 by decide)) (g := (mkF m 35 #[.val (.ref a1), .val (.int (5 : Int32)), .val (.ref bz1), .val (.int (4 : Int32))] [(.int ((((10 : Int64) - (5 : Int32).toInt64) + (4 : Int32).toInt64) - ((((10 : Int64) - (5 : Int32).toInt64) + (4 : Int32).toInt64) / (10 : Int32).toInt64) * (10 : Int32).toInt64).toInt32), (.ref b1), (.int (4 : Int32)), (.ref bz1)])) rfl rfl (hb hby own_d_prog_120_method_5_code_35)
  refine OGo.st qz50 ?_
  show OGo p.tables e below _ (T48.setTop (mkF m 36 #[.val (.ref a1), .val (.int (5 : Int32)), .val (.ref bz1), .val (.int (4 : Int32))] [(.long (w 9)), (.int (4 : Int32)), (.ref bz1)]))
  obtain ⟨T51, hz51, X51, ez51, W51, V51, st51⟩ := own_stJ X48 hx hZ ez48 V41 (j := (4 : Int32)) (by decide)  (g := (mkF m 36 #[.val (.ref a1), .val (.int (5 : Int32)), .val (.ref bz1), .val (.int (4 : Int32))] [(.long (w 9)), (.int (4 : Int32)), (.ref bz1)])) rfl rfl (hb hby own_d_prog_120_method_5_code_36)
  have F_52 := F_42.other W51 (Or.inl (Nat.ne_of_lt lt_a1_bz1))
  have F_53 := F_43.other W51 (Or.inl (Nat.ne_of_lt lt_a1_bz1))
  have Af_54 := Af_44.other W51 (Nat.ne_of_lt lt_b1_bz1)
  have N51 := Fr.snoc X51 N41 g_bz1
  have K_55 : Keep h0 hz51 [] := K_45.wr W51 (Or.inr sz_bz1)
  refine OGo.st st51 ?_
  show OGo p.tables e below _ (T51.setTop (mkF m 37 #[.val (.ref a1), .val (.int (5 : Int32)), .val (.ref bz1), .val (.int (4 : Int32))] []))
  refine OGo.st (fun _ k_ => XS.iinc X51.here hx rfl (hb hby own_d_prog_120_method_5_code_37) rfl (l' := #[.val (.ref a1), .val (.int (5 : Int32)), .val (.ref bz1), .val (.int (5 : Int32))]) rfl k_) ?_
  show OGo p.tables e below _ (T51.setTop (mkF m 40 #[.val (.ref a1), .val (.int (5 : Int32)), .val (.ref bz1), .val (.int (5 : Int32))] []))
  refine OGo.st (fun _ k_ => XS.goto X51.here hx rfl (pc0 := 40) (pc' := 6) rfl (hb hby own_d_prog_120_method_5_code_40) (by decide) (by decide) k_) ?_
  show OGo p.tables e below _ (T51.setTop (mkF m 6 #[.val (.ref a1), .val (.int (5 : Int32)), .val (.ref bz1), .val (.int (5 : Int32))] []))
  refine OGo.st (fun _ k_ => XS.iloadN X51.here hx rfl (hb hby own_d_prog_120_method_5_code_6) rfl k_) ?_
  show OGo p.tables e below _ (T51.setTop (mkF m 7 #[.val (.ref a1), .val (.int (5 : Int32)), .val (.ref bz1), .val (.int (5 : Int32))] [(.int (5 : Int32))]))
  refine OGo.st (fun _ k_ => XS.iconst X51.here hx rfl (hb hby own_d_prog_120_method_5_code_7) k_) ?_
  show OGo p.tables e below _ (T51.setTop (mkF m 8 #[.val (.ref a1), .val (.int (5 : Int32)), .val (.ref bz1), .val (.int (5 : Int32))] [(.int (5 : Int32)), (.int (5 : Int32))]))
  refine OGo.st (fun _ k_ => XS.icmpYes X51.here hx rfl (pc0 := 8) (pc' := 43) rfl (hb hby own_d_prog_120_method_5_code_8) rfl (XT.ii_ge_t (by decide)) (by decide) (by decide) k_) ?_
  have Af_56 : Arf Z hz51 bz1 kz1 .long (5 : Int32) (own_L (fun i => w (5 + i))) := V51.congr (fun i hi => match i, hi with | 0, _ => rfl | 1, _ => rfl | 2, _ => rfl | 3, _ => rfl | 4, _ => rfl | (n_ + 5), q_ => absurd q_ (by show ¬ n_ + 5 < 5; omega))
  show OGo p.tables e below _ (T51.setTop (mkF m 43 #[.val (.ref a1), .val (.int (5 : Int32)), .val (.ref bz1), .val (.int (5 : Int32))] []))
  refine OGo.st (fun _ k_ => XS.aloadN X51.here hx rfl (hb hby own_d_prog_120_method_5_code_43) rfl rfl k_) ?_
  show OGo p.tables e below _ (T51.setTop (mkF m 44 #[.val (.ref a1), .val (.int (5 : Int32)), .val (.ref bz1), .val (.int (5 : Int32))] [(.ref bz1)]))
  obtain ⟨_, _, ⟨T57, Lz57, kz57, nz57⟩, -, X57, ⟨Lc57, hQ57, lz57, yz57, zz57⟩, st57⟩ := Jvm.LawKit.callS X51 hx (y := (⟨"java/util/Arrays", "sort", "([J)V"⟩ : MethodName)) hown (mvT hZ (hw _ (List.mem_of_getElem? (i := 58) rfl))) (mvT hZ (hw _ (List.mem_of_getElem? (i := 59) rfl))) (mvT hZ (hw _ (List.mem_of_getElem? (i := 60) rfl))) (mvT hZ (hw _ (List.mem_of_getElem? (i := 61) rfl))) (by decide) (backOf (W := 0) (rm8 l Z a0 hw [] bz1 kz1 (fun i => w (5 + i)) hz51 n0 (Nat.le_trans Z0 K_55.1) Af_56 g_bz1) hZ (hw _ (List.mem_of_getElem? (i := 61) rfl)) (hw _ (List.mem_of_getElem? (i := 60) rfl)) (by decide) (by decide)) (g := (mkF m 44 #[.val (.ref a1), .val (.int (5 : Int32)), .val (.ref bz1), .val (.int (5 : Int32))] [(.ref bz1)])) rfl (by rw [hml]; rfl) (argsL := [(.ref bz1)]) (rest := []) (lenOf own_pd4 rfl) rfl (by show 2 * 0 + _ ≤ _; exact Nat.le_of_eq rfl) (hb hby own_d_prog_120_method_5_code_44) (fun _ _ => ⟨rfl, ez51, (by decide : 1 + 0 ≤ _), (by decide : 5 + 0 ≤ _)⟩)
  dsimp only [Pt.U, Pt.locs, Pt.cells, Pt.slots] at X57 lz57 yz57 zz57 st57 hQ57
  have X57 := own_reb X57 lz57 yz57 zz57
  have X57 : Stand p l e ({ frames := 4, cells := 1, slots := 5, locals := 84 } : Room) s m #[(.ref a1), (.int (5 : Int32))] below meth c T57 _ 1 5 := X57
  obtain ⟨hvq57, Nq57, Kq57, w57_, A57q, I57q⟩ := hQ57
  rw [hvq57] at st57
  have N57 := Fr.app N51 Nq57
  have F_58 := F_52.keep Kq57 (ninS (Nat.ne_of_lt lt_a1_bz1) nin0)
  have F_59 := F_53.keep Kq57 (ninS (Nat.ne_of_lt lt_a1_bz1) nin0)
  have Af_60 := Af_54.keep Kq57 (ninS (Nat.ne_of_lt lt_b1_bz1) nin0)
  have K_61 : Keep h0 T57.heap [] := K_55.trans Kq57 (allS (Or.inr sz_bz1) all0)
  refine OGo.st st57 ?_
  show OGo p.tables e below _ (T57.setTop (mkF m 47 #[.val (.ref a1), .val (.int (5 : Int32)), .val (.ref bz1), .val (.int (5 : Int32))] []))
  refine OGo.st (fun _ k_ => XS.aloadN X57.here hx rfl (hb hby own_d_prog_120_method_5_code_47) rfl rfl k_) ?_
  show OGo p.tables e below _ (T57.setTop (mkF m 48 #[.val (.ref a1), .val (.int (5 : Int32)), .val (.ref bz1), .val (.int (5 : Int32))] [(.ref bz1)]))
  refine OGo.st (fun _ k_ => XS.iconst X57.here hx rfl (hb hby own_d_prog_120_method_5_code_48) k_) ?_
  show OGo p.tables e below _ (T57.setTop (mkF m 49 #[.val (.ref a1), .val (.int (5 : Int32)), .val (.ref bz1), .val (.int (5 : Int32))] [(.int (2 : Int32)), (.ref bz1)]))
  have qz62 := own_ldJ X57 hx hZ rfl A57q (j := (2 : Int32)) (v := (w57_ 2)) (by decide) rfl (g := (mkF m 49 #[.val (.ref a1), .val (.int (5 : Int32)), .val (.ref bz1), .val (.int (5 : Int32))] [(.int (2 : Int32)), (.ref bz1)])) rfl rfl (hb hby own_d_prog_120_method_5_code_49)
  refine OGo.st qz62 ?_
  show OGo p.tables e below _ (T57.setTop (mkF m 50 #[.val (.ref a1), .val (.int (5 : Int32)), .val (.ref bz1), .val (.int (5 : Int32))] [(.long (w57_ 2))]))
  refine OGo.fin X57 (v := some (.long (w57_ 2))) (fun h => by rw [Bd.returns] at h; cases h) hlk (fun fs hr => X57.lreturnOut hx Bd.returns (hb hby own_d_prog_120_method_5_code_50) hr) ?_ (by decide) (by decide)
  show own_Q_rm9 Z a1 b1 k1 w lo hi h0 n0 _ T57.heap _
  skip
  exact ⟨by rw [own_medI I57q hl (fun i q => hv _ (by omega))], N57, K_61⟩
theorem own_ef_rm10 (m : MethodId) (x0 : Addr) (x1 : Int32) : entryFrame m #[(.ref x0), (.int x1)] 4 = mkF m 0 #[.val (.ref x0), .val (.int x1), .unset, .unset] [] := by first | (simp [entryFrame, mkF, argsToLocals, Value.category]; done) | rfl
def own_Q_rm10 (Z : State) (a1 : Addr) (b1 : Addr) (k1 : ClassId) (w : Nat → Int64) (lo hi : Int64) (h0 : Heap) (n0 : Nat) (v : Option Value) (h : Heap) (L : List Loc) : Prop := v = some (.long (own_med (own_cnt hi (fun i => w (0 + i))) lo hi)) ∧ Fr n0 L ∧ Keep h0 h []
set_option maxRecDepth 65536 in
set_option maxHeartbeats 40000000 in
theorem rm10 (l : Launch) (Z : State) (a0 : Array Value) (hw : ∀ d ∈ tables_1, d.before a0 Z = true) (ws : List Jvm.Cond) (a1 : Addr) (b1 : Addr) (k1 : ClassId) (w : Nat → Int64) (lo hi : Int64) (h0 : Heap) (n0 : Nat) (Z0 : n0 ≤ h0.size) (F_recent_a1 : Fld Z h0 a1 "com/example/locator/locator/cli/WarmUp" "recent" "[J" (.ref b1)) (F_passes_a1 : Fld Z h0 a1 "com/example/locator/locator/cli/WarmUp" "passes" "J" (.long (10 : Int64))) (A_b1 : Arf Z h0 b1 k1 .long 10 (own_L w)) (hl : ¬ hi < lo) (hv : ∀ i, i < 10 → w i = lo ∨ w i = hi) :
    OMet l Z (⟨"com/example/locator/locator/cli/WarmUp", "median", "(I)J"⟩ : MethodName) prog_120_method_5_code 4 (some .long) ws ({ frames := 4, cells := 1, slots := 5, locals := 84 } : Room) #[(.ref a1), (.int (10 : Int32))] h0 (own_Q_rm10 Z a1 b1 k1 w lo hi h0 n0) := by
  refine MetFree.of_bodySF (plainFor_of_name own_pn0) hisR ?_
  intro p e s m args below meth c s₁ Bd hml0 hP hK
  obtain ⟨rfl, hZ, hh⟩ := hP
  have hx := Bd.exec
  have hby := Bd.bytes
  have hml : c.maxLocals = 4 := hml0
  have hown : s.vm.findClass "com/example/locator/locator/cli/WarmUp" = some m.cls := findClass_of_methodNamed Bd.named
  have hnm := (name_of_methodNamed Bd.named Bd.method).1
  have hlk : meth.locks = false := Bd.notSynchronized
  have X0 : Stand p l e ({ frames := 4, cells := 1, slots := 5, locals := 84 } : Room) s m #[(.ref a1), (.int (10 : Int32))] below meth c s₁ [] 0 0 := Stand.of_body Bd
  have e0 : s₁.heap = h0 := by rw [← hh, Bd.state]; rfl
  have N0 := Fr.nil n0
  refine OGo.enter (P := OPost s (own_Q_rm10 Z a1 b1 k1 w lo hi h0 n0) 1 5) (own_ef_rm10 m a1 (10 : Int32)) ?_
  show OGo p.tables e below _ (s₁.setTop (mkF m 0 #[.val (.ref a1), .val (.int (10 : Int32)), .unset, .unset] []))
  refine OGo.st (fun _ k_ => XS.iconst X0.here hx rfl (hb hby own_d_prog_120_method_5_code_0) k_) ?_
  show OGo p.tables e below _ (s₁.setTop (mkF m 1 #[.val (.ref a1), .val (.int (10 : Int32)), .unset, .unset] [(.int (5 : Int32))]))
  obtain ⟨T1, hz1, kz1, X1, ez1, Ez1, Az1, st1⟩ := newP X0 hx hZ (hw _ (List.mem_of_getElem? (i := 11) rfl)) e0 (g := (mkF m 1 #[.val (.ref a1), .val (.int (10 : Int32)), .unset, .unset] [(.int (5 : Int32))])) rfl (hb hby own_d_prog_120_method_5_code_1) rfl (by decide) (cap := 5) (by decide) (by decide) (by decide) (by decide)
  obtain ⟨bz1, g1⟩ : ∃ z, z = h0.size := ⟨_, rfl⟩
  rw [← g1] at Az1 st1
  have lt_a1_bz1 : @LT.lt Nat instLTNat a1 bz1 := Nat.lt_of_lt_of_le F_recent_a1.lt (Nat.le_of_eq g1.symm)
  have lt_b1_bz1 : @LT.lt Nat instLTNat b1 bz1 := Nat.lt_of_lt_of_le A_b1.lt (Nat.le_of_eq g1.symm)
  have g_bz1 : n0 ≤ bz1 := Nat.le_trans (Nat.le_trans Z0 (Keep.refl h0 []).1) (Nat.le_of_eq g1.symm)
  have sz_bz1 : h0.size ≤ bz1 := Nat.le_trans (Keep.refl h0 []).1 (Nat.le_of_eq g1.symm)
  have F_2 := F_recent_a1.ext Ez1
  have F_3 := F_passes_a1.ext Ez1
  have Af_4 := A_b1.ext Ez1
  have K_5 : Keep h0 hz1 [] := (Keep.refl h0 []).ext Ez1
  have V_bz1 : Arf Z hz1 bz1 kz1 .long (5 : Int32) (fun _ => (.long (0 : Int64))) := own_new Az1 (by decide)
  refine OGo.st st1 ?_
  show OGo p.tables e below _ (T1.setTop (mkF m 3 #[.val (.ref a1), .val (.int (10 : Int32)), .unset, .unset] [(.ref bz1)]))
  refine OGo.st (fun _ k_ => XS.astoreN X1.here hx rfl (hb hby own_d_prog_120_method_5_code_3) rfl rfl (l' := #[.val (.ref a1), .val (.int (10 : Int32)), .val (.ref bz1), .unset]) rfl k_) ?_
  show OGo p.tables e below _ (T1.setTop (mkF m 4 #[.val (.ref a1), .val (.int (10 : Int32)), .val (.ref bz1), .unset] []))
  refine OGo.st (fun _ k_ => XS.iconst X1.here hx rfl (hb hby own_d_prog_120_method_5_code_4) k_) ?_
  show OGo p.tables e below _ (T1.setTop (mkF m 5 #[.val (.ref a1), .val (.int (10 : Int32)), .val (.ref bz1), .unset] [(.int (0 : Int32))]))
  refine OGo.st (fun _ k_ => XS.istoreN X1.here hx rfl (hb hby own_d_prog_120_method_5_code_5) rfl (l' := #[.val (.ref a1), .val (.int (10 : Int32)), .val (.ref bz1), .val (.int (0 : Int32))]) rfl k_) ?_
  show OGo p.tables e below _ (T1.setTop (mkF m 6 #[.val (.ref a1), .val (.int (10 : Int32)), .val (.ref bz1), .val (.int (0 : Int32))] []))
  refine OGo.st (fun _ k_ => XS.iloadN X1.here hx rfl (hb hby own_d_prog_120_method_5_code_6) rfl k_) ?_
  show OGo p.tables e below _ (T1.setTop (mkF m 7 #[.val (.ref a1), .val (.int (10 : Int32)), .val (.ref bz1), .val (.int (0 : Int32))] [(.int (0 : Int32))]))
  refine OGo.st (fun _ k_ => XS.iconst X1.here hx rfl (hb hby own_d_prog_120_method_5_code_7) k_) ?_
  show OGo p.tables e below _ (T1.setTop (mkF m 8 #[.val (.ref a1), .val (.int (10 : Int32)), .val (.ref bz1), .val (.int (0 : Int32))] [(.int (5 : Int32)), (.int (0 : Int32))]))
  refine OGo.st (fun _ k_ => XS.icmpNo X1.here hx rfl (hb hby own_d_prog_120_method_5_code_8) rfl (XT.ii_ge_f (by decide)) k_) ?_
  show OGo p.tables e below _ (T1.setTop (mkF m 11 #[.val (.ref a1), .val (.int (10 : Int32)), .val (.ref bz1), .val (.int (0 : Int32))] []))
  refine OGo.st (fun _ k_ => XS.aloadN X1.here hx rfl (hb hby own_d_prog_120_method_5_code_11) rfl rfl k_) ?_
  show OGo p.tables e below _ (T1.setTop (mkF m 12 #[.val (.ref a1), .val (.int (10 : Int32)), .val (.ref bz1), .val (.int (0 : Int32))] [(.ref bz1)]))
  refine OGo.st (fun _ k_ => XS.iloadN X1.here hx rfl (hb hby own_d_prog_120_method_5_code_12) rfl k_) ?_
  show OGo p.tables e below _ (T1.setTop (mkF m 13 #[.val (.ref a1), .val (.int (10 : Int32)), .val (.ref bz1), .val (.int (0 : Int32))] [(.int (0 : Int32)), (.ref bz1)]))
  refine OGo.st (fun _ k_ => XS.aloadN X1.here hx rfl (hb hby own_d_prog_120_method_5_code_13) rfl rfl k_) ?_
  show OGo p.tables e below _ (T1.setTop (mkF m 14 #[.val (.ref a1), .val (.int (10 : Int32)), .val (.ref bz1), .val (.int (0 : Int32))] [(.ref a1), (.int (0 : Int32)), (.ref bz1)]))
  obtain ⟨T6, X6, ez6, st6⟩ := getF X1 hx hZ hown (host := "") (Or.inl (hw _ (List.mem_of_getElem? (i := 12) rfl))) Via.refl ez1 F_2 (g := (mkF m 14 #[.val (.ref a1), .val (.int (10 : Int32)), .val (.ref bz1), .val (.int (0 : Int32))] [(.ref a1), (.int (0 : Int32)), (.ref bz1)])) rfl rfl (hb hby own_d_prog_120_method_5_code_14)
  refine OGo.st st6 ?_
  show OGo p.tables e below _ (T6.setTop (mkF m 17 #[.val (.ref a1), .val (.int (10 : Int32)), .val (.ref bz1), .val (.int (0 : Int32))] [(.ref b1), (.int (0 : Int32)), (.ref bz1)]))
  refine OGo.st (fun _ k_ => XS.aloadN X6.here hx rfl (hb hby own_d_prog_120_method_5_code_17) rfl rfl k_) ?_
  show OGo p.tables e below _ (T6.setTop (mkF m 18 #[.val (.ref a1), .val (.int (10 : Int32)), .val (.ref bz1), .val (.int (0 : Int32))] [(.ref a1), (.ref b1), (.int (0 : Int32)), (.ref bz1)]))
  obtain ⟨T7, X7, ez7, st7⟩ := getF X6 hx hZ hown (host := "") (Or.inl (hw _ (List.mem_of_getElem? (i := 29) rfl))) Via.refl ez6 F_3 (g := (mkF m 18 #[.val (.ref a1), .val (.int (10 : Int32)), .val (.ref bz1), .val (.int (0 : Int32))] [(.ref a1), (.ref b1), (.int (0 : Int32)), (.ref bz1)])) rfl rfl (hb hby own_d_prog_120_method_5_code_18)
  refine OGo.st st7 ?_
  show OGo p.tables e below _ (T7.setTop (mkF m 21 #[.val (.ref a1), .val (.int (10 : Int32)), .val (.ref bz1), .val (.int (0 : Int32))] [(.long (10 : Int64)), (.ref b1), (.int (0 : Int32)), (.ref bz1)]))
  refine OGo.st (fun _ k_ => XS.iloadN X7.here hx rfl (hb hby own_d_prog_120_method_5_code_21) rfl k_) ?_
  show OGo p.tables e below _ (T7.setTop (mkF m 22 #[.val (.ref a1), .val (.int (10 : Int32)), .val (.ref bz1), .val (.int (0 : Int32))] [(.int (10 : Int32)), (.long (10 : Int64)), (.ref b1), (.int (0 : Int32)), (.ref bz1)]))
  refine OGo.st (fun _ k_ => XS.i2l X7.here hx rfl (hb hby own_d_prog_120_method_5_code_22) rfl k_) ?_
  show OGo p.tables e below _ (T7.setTop (mkF m 23 #[.val (.ref a1), .val (.int (10 : Int32)), .val (.ref bz1), .val (.int (0 : Int32))] [(.long (10 : Int32).toInt64), (.long (10 : Int64)), (.ref b1), (.int (0 : Int32)), (.ref bz1)]))
  refine OGo.st (fun _ k_ => XS.lsub X7.here hx rfl (hb hby own_d_prog_120_method_5_code_23) rfl k_) ?_
  show OGo p.tables e below _ (T7.setTop (mkF m 24 #[.val (.ref a1), .val (.int (10 : Int32)), .val (.ref bz1), .val (.int (0 : Int32))] [(.long ((10 : Int64) - (10 : Int32).toInt64)), (.ref b1), (.int (0 : Int32)), (.ref bz1)]))
  refine OGo.st (fun _ k_ => XS.iloadN X7.here hx rfl (hb hby own_d_prog_120_method_5_code_24) rfl k_) ?_
  show OGo p.tables e below _ (T7.setTop (mkF m 25 #[.val (.ref a1), .val (.int (10 : Int32)), .val (.ref bz1), .val (.int (0 : Int32))] [(.int (0 : Int32)), (.long ((10 : Int64) - (10 : Int32).toInt64)), (.ref b1), (.int (0 : Int32)), (.ref bz1)]))
  refine OGo.st (fun _ k_ => XS.i2l X7.here hx rfl (hb hby own_d_prog_120_method_5_code_25) rfl k_) ?_
  show OGo p.tables e below _ (T7.setTop (mkF m 26 #[.val (.ref a1), .val (.int (10 : Int32)), .val (.ref bz1), .val (.int (0 : Int32))] [(.long (0 : Int32).toInt64), (.long ((10 : Int64) - (10 : Int32).toInt64)), (.ref b1), (.int (0 : Int32)), (.ref bz1)]))
  refine OGo.st (fun _ k_ => XS.ladd X7.here hx rfl (hb hby own_d_prog_120_method_5_code_26) rfl k_) ?_
  show OGo p.tables e below _ (T7.setTop (mkF m 27 #[.val (.ref a1), .val (.int (10 : Int32)), .val (.ref bz1), .val (.int (0 : Int32))] [(.long (((10 : Int64) - (10 : Int32).toInt64) + (0 : Int32).toInt64)), (.ref b1), (.int (0 : Int32)), (.ref bz1)]))
  refine OGo.st (fun _ k_ => XS.aloadN X7.here hx rfl (hb hby own_d_prog_120_method_5_code_27) rfl rfl k_) ?_
  show OGo p.tables e below _ (T7.setTop (mkF m 28 #[.val (.ref a1), .val (.int (10 : Int32)), .val (.ref bz1), .val (.int (0 : Int32))] [(.ref a1), (.long (((10 : Int64) - (10 : Int32).toInt64) + (0 : Int32).toInt64)), (.ref b1), (.int (0 : Int32)), (.ref bz1)]))
  obtain ⟨T8, X8, ez8, st8⟩ := getF X7 hx hZ hown (host := "") (Or.inl (hw _ (List.mem_of_getElem? (i := 12) rfl))) Via.refl ez7 F_2 (g := (mkF m 28 #[.val (.ref a1), .val (.int (10 : Int32)), .val (.ref bz1), .val (.int (0 : Int32))] [(.ref a1), (.long (((10 : Int64) - (10 : Int32).toInt64) + (0 : Int32).toInt64)), (.ref b1), (.int (0 : Int32)), (.ref bz1)])) rfl rfl (hb hby own_d_prog_120_method_5_code_28)
  refine OGo.st st8 ?_
  show OGo p.tables e below _ (T8.setTop (mkF m 31 #[.val (.ref a1), .val (.int (10 : Int32)), .val (.ref bz1), .val (.int (0 : Int32))] [(.ref b1), (.long (((10 : Int64) - (10 : Int32).toInt64) + (0 : Int32).toInt64)), (.ref b1), (.int (0 : Int32)), (.ref bz1)]))
  have qz9 := own_alen X8 hx hZ ez8 Af_4 (g := (mkF m 31 #[.val (.ref a1), .val (.int (10 : Int32)), .val (.ref bz1), .val (.int (0 : Int32))] [(.ref b1), (.long (((10 : Int64) - (10 : Int32).toInt64) + (0 : Int32).toInt64)), (.ref b1), (.int (0 : Int32)), (.ref bz1)])) rfl rfl (hb hby own_d_prog_120_method_5_code_31)
  refine OGo.st qz9 ?_
  show OGo p.tables e below _ (T8.setTop (mkF m 32 #[.val (.ref a1), .val (.int (10 : Int32)), .val (.ref bz1), .val (.int (0 : Int32))] [(.int (10 : Int32)), (.long (((10 : Int64) - (10 : Int32).toInt64) + (0 : Int32).toInt64)), (.ref b1), (.int (0 : Int32)), (.ref bz1)]))
  refine OGo.st (fun _ k_ => XS.i2l X8.here hx rfl (hb hby own_d_prog_120_method_5_code_32) rfl k_) ?_
  show OGo p.tables e below _ (T8.setTop (mkF m 33 #[.val (.ref a1), .val (.int (10 : Int32)), .val (.ref bz1), .val (.int (0 : Int32))] [(.long (10 : Int32).toInt64), (.long (((10 : Int64) - (10 : Int32).toInt64) + (0 : Int32).toInt64)), (.ref b1), (.int (0 : Int32)), (.ref bz1)]))
  refine OGo.st (fun _ k_ => XS.lrem X8.here hx rfl (hb hby own_d_prog_120_method_5_code_33) rfl (by decide) k_) ?_
  show OGo p.tables e below _ (T8.setTop (mkF m 34 #[.val (.ref a1), .val (.int (10 : Int32)), .val (.ref bz1), .val (.int (0 : Int32))] [(.long ((((10 : Int64) - (10 : Int32).toInt64) + (0 : Int32).toInt64) - ((((10 : Int64) - (10 : Int32).toInt64) + (0 : Int32).toInt64) / (10 : Int32).toInt64) * (10 : Int32).toInt64)), (.ref b1), (.int (0 : Int32)), (.ref bz1)]))
  refine OGo.st (fun _ k_ => XS.l2i X8.here hx rfl (hb hby own_d_prog_120_method_5_code_34) rfl k_) ?_
  show OGo p.tables e below _ (T8.setTop (mkF m 35 #[.val (.ref a1), .val (.int (10 : Int32)), .val (.ref bz1), .val (.int (0 : Int32))] [(.int ((((10 : Int64) - (10 : Int32).toInt64) + (0 : Int32).toInt64) - ((((10 : Int64) - (10 : Int32).toInt64) + (0 : Int32).toInt64) / (10 : Int32).toInt64) * (10 : Int32).toInt64).toInt32), (.ref b1), (.int (0 : Int32)), (.ref bz1)]))
  have qz10 := own_ldJ X8 hx hZ ez8 Af_4 (j := ((((10 : Int64) - (10 : Int32).toInt64) + (0 : Int32).toInt64) - ((((10 : Int64) - (10 : Int32).toInt64) + (0 : Int32).toInt64) / (10 : Int32).toInt64) * (10 : Int32).toInt64).toInt32) (v := (w 0)) (by decide) (congrArg (own_L w) (show _ = 0 by decide)) (g := (mkF m 35 #[.val (.ref a1), .val (.int (10 : Int32)), .val (.ref bz1), .val (.int (0 : Int32))] [(.int ((((10 : Int64) - (10 : Int32).toInt64) + (0 : Int32).toInt64) - ((((10 : Int64) - (10 : Int32).toInt64) + (0 : Int32).toInt64) / (10 : Int32).toInt64) * (10 : Int32).toInt64).toInt32), (.ref b1), (.int (0 : Int32)), (.ref bz1)])) rfl rfl (hb hby own_d_prog_120_method_5_code_35)
  refine OGo.st qz10 ?_
  show OGo p.tables e below _ (T8.setTop (mkF m 36 #[.val (.ref a1), .val (.int (10 : Int32)), .val (.ref bz1), .val (.int (0 : Int32))] [(.long (w 0)), (.int (0 : Int32)), (.ref bz1)]))
  obtain ⟨T11, hz11, X11, ez11, W11, V11, st11⟩ := own_stJ X8 hx hZ ez8 V_bz1 (j := (0 : Int32)) (by decide)  (g := (mkF m 36 #[.val (.ref a1), .val (.int (10 : Int32)), .val (.ref bz1), .val (.int (0 : Int32))] [(.long (w 0)), (.int (0 : Int32)), (.ref bz1)])) rfl rfl (hb hby own_d_prog_120_method_5_code_36)
  have F_12 := F_2.other W11 (Or.inl (Nat.ne_of_lt lt_a1_bz1))
  have F_13 := F_3.other W11 (Or.inl (Nat.ne_of_lt lt_a1_bz1))
  have Af_14 := Af_4.other W11 (Nat.ne_of_lt lt_b1_bz1)
  have N11 := Fr.snoc X11 N0 g_bz1
  have K_15 : Keep h0 hz11 [] := K_5.wr W11 (Or.inr sz_bz1)
  refine OGo.st st11 ?_
  show OGo p.tables e below _ (T11.setTop (mkF m 37 #[.val (.ref a1), .val (.int (10 : Int32)), .val (.ref bz1), .val (.int (0 : Int32))] []))
  refine OGo.st (fun _ k_ => XS.iinc X11.here hx rfl (hb hby own_d_prog_120_method_5_code_37) rfl (l' := #[.val (.ref a1), .val (.int (10 : Int32)), .val (.ref bz1), .val (.int (1 : Int32))]) rfl k_) ?_
  show OGo p.tables e below _ (T11.setTop (mkF m 40 #[.val (.ref a1), .val (.int (10 : Int32)), .val (.ref bz1), .val (.int (1 : Int32))] []))
  refine OGo.st (fun _ k_ => XS.goto X11.here hx rfl (pc0 := 40) (pc' := 6) rfl (hb hby own_d_prog_120_method_5_code_40) (by decide) (by decide) k_) ?_
  show OGo p.tables e below _ (T11.setTop (mkF m 6 #[.val (.ref a1), .val (.int (10 : Int32)), .val (.ref bz1), .val (.int (1 : Int32))] []))
  refine OGo.st (fun _ k_ => XS.iloadN X11.here hx rfl (hb hby own_d_prog_120_method_5_code_6) rfl k_) ?_
  show OGo p.tables e below _ (T11.setTop (mkF m 7 #[.val (.ref a1), .val (.int (10 : Int32)), .val (.ref bz1), .val (.int (1 : Int32))] [(.int (1 : Int32))]))
  refine OGo.st (fun _ k_ => XS.iconst X11.here hx rfl (hb hby own_d_prog_120_method_5_code_7) k_) ?_
  show OGo p.tables e below _ (T11.setTop (mkF m 8 #[.val (.ref a1), .val (.int (10 : Int32)), .val (.ref bz1), .val (.int (1 : Int32))] [(.int (5 : Int32)), (.int (1 : Int32))]))
  refine OGo.st (fun _ k_ => XS.icmpNo X11.here hx rfl (hb hby own_d_prog_120_method_5_code_8) rfl (XT.ii_ge_f (by decide)) k_) ?_
  show OGo p.tables e below _ (T11.setTop (mkF m 11 #[.val (.ref a1), .val (.int (10 : Int32)), .val (.ref bz1), .val (.int (1 : Int32))] []))
  refine OGo.st (fun _ k_ => XS.aloadN X11.here hx rfl (hb hby own_d_prog_120_method_5_code_11) rfl rfl k_) ?_
  show OGo p.tables e below _ (T11.setTop (mkF m 12 #[.val (.ref a1), .val (.int (10 : Int32)), .val (.ref bz1), .val (.int (1 : Int32))] [(.ref bz1)]))
  refine OGo.st (fun _ k_ => XS.iloadN X11.here hx rfl (hb hby own_d_prog_120_method_5_code_12) rfl k_) ?_
  show OGo p.tables e below _ (T11.setTop (mkF m 13 #[.val (.ref a1), .val (.int (10 : Int32)), .val (.ref bz1), .val (.int (1 : Int32))] [(.int (1 : Int32)), (.ref bz1)]))
  refine OGo.st (fun _ k_ => XS.aloadN X11.here hx rfl (hb hby own_d_prog_120_method_5_code_13) rfl rfl k_) ?_
  show OGo p.tables e below _ (T11.setTop (mkF m 14 #[.val (.ref a1), .val (.int (10 : Int32)), .val (.ref bz1), .val (.int (1 : Int32))] [(.ref a1), (.int (1 : Int32)), (.ref bz1)]))
  obtain ⟨T16, X16, ez16, st16⟩ := getF X11 hx hZ hown (host := "") (Or.inl (hw _ (List.mem_of_getElem? (i := 12) rfl))) Via.refl ez11 F_12 (g := (mkF m 14 #[.val (.ref a1), .val (.int (10 : Int32)), .val (.ref bz1), .val (.int (1 : Int32))] [(.ref a1), (.int (1 : Int32)), (.ref bz1)])) rfl rfl (hb hby own_d_prog_120_method_5_code_14)
  refine OGo.st st16 ?_
  show OGo p.tables e below _ (T16.setTop (mkF m 17 #[.val (.ref a1), .val (.int (10 : Int32)), .val (.ref bz1), .val (.int (1 : Int32))] [(.ref b1), (.int (1 : Int32)), (.ref bz1)]))
  refine OGo.st (fun _ k_ => XS.aloadN X16.here hx rfl (hb hby own_d_prog_120_method_5_code_17) rfl rfl k_) ?_
  show OGo p.tables e below _ (T16.setTop (mkF m 18 #[.val (.ref a1), .val (.int (10 : Int32)), .val (.ref bz1), .val (.int (1 : Int32))] [(.ref a1), (.ref b1), (.int (1 : Int32)), (.ref bz1)]))
  obtain ⟨T17, X17, ez17, st17⟩ := getF X16 hx hZ hown (host := "") (Or.inl (hw _ (List.mem_of_getElem? (i := 29) rfl))) Via.refl ez16 F_13 (g := (mkF m 18 #[.val (.ref a1), .val (.int (10 : Int32)), .val (.ref bz1), .val (.int (1 : Int32))] [(.ref a1), (.ref b1), (.int (1 : Int32)), (.ref bz1)])) rfl rfl (hb hby own_d_prog_120_method_5_code_18)
  refine OGo.st st17 ?_
  show OGo p.tables e below _ (T17.setTop (mkF m 21 #[.val (.ref a1), .val (.int (10 : Int32)), .val (.ref bz1), .val (.int (1 : Int32))] [(.long (10 : Int64)), (.ref b1), (.int (1 : Int32)), (.ref bz1)]))
  refine OGo.st (fun _ k_ => XS.iloadN X17.here hx rfl (hb hby own_d_prog_120_method_5_code_21) rfl k_) ?_
  show OGo p.tables e below _ (T17.setTop (mkF m 22 #[.val (.ref a1), .val (.int (10 : Int32)), .val (.ref bz1), .val (.int (1 : Int32))] [(.int (10 : Int32)), (.long (10 : Int64)), (.ref b1), (.int (1 : Int32)), (.ref bz1)]))
  refine OGo.st (fun _ k_ => XS.i2l X17.here hx rfl (hb hby own_d_prog_120_method_5_code_22) rfl k_) ?_
  show OGo p.tables e below _ (T17.setTop (mkF m 23 #[.val (.ref a1), .val (.int (10 : Int32)), .val (.ref bz1), .val (.int (1 : Int32))] [(.long (10 : Int32).toInt64), (.long (10 : Int64)), (.ref b1), (.int (1 : Int32)), (.ref bz1)]))
  refine OGo.st (fun _ k_ => XS.lsub X17.here hx rfl (hb hby own_d_prog_120_method_5_code_23) rfl k_) ?_
  show OGo p.tables e below _ (T17.setTop (mkF m 24 #[.val (.ref a1), .val (.int (10 : Int32)), .val (.ref bz1), .val (.int (1 : Int32))] [(.long ((10 : Int64) - (10 : Int32).toInt64)), (.ref b1), (.int (1 : Int32)), (.ref bz1)]))
  refine OGo.st (fun _ k_ => XS.iloadN X17.here hx rfl (hb hby own_d_prog_120_method_5_code_24) rfl k_) ?_
  show OGo p.tables e below _ (T17.setTop (mkF m 25 #[.val (.ref a1), .val (.int (10 : Int32)), .val (.ref bz1), .val (.int (1 : Int32))] [(.int (1 : Int32)), (.long ((10 : Int64) - (10 : Int32).toInt64)), (.ref b1), (.int (1 : Int32)), (.ref bz1)]))
  refine OGo.st (fun _ k_ => XS.i2l X17.here hx rfl (hb hby own_d_prog_120_method_5_code_25) rfl k_) ?_
  show OGo p.tables e below _ (T17.setTop (mkF m 26 #[.val (.ref a1), .val (.int (10 : Int32)), .val (.ref bz1), .val (.int (1 : Int32))] [(.long (1 : Int32).toInt64), (.long ((10 : Int64) - (10 : Int32).toInt64)), (.ref b1), (.int (1 : Int32)), (.ref bz1)]))
  refine OGo.st (fun _ k_ => XS.ladd X17.here hx rfl (hb hby own_d_prog_120_method_5_code_26) rfl k_) ?_
  show OGo p.tables e below _ (T17.setTop (mkF m 27 #[.val (.ref a1), .val (.int (10 : Int32)), .val (.ref bz1), .val (.int (1 : Int32))] [(.long (((10 : Int64) - (10 : Int32).toInt64) + (1 : Int32).toInt64)), (.ref b1), (.int (1 : Int32)), (.ref bz1)]))
  refine OGo.st (fun _ k_ => XS.aloadN X17.here hx rfl (hb hby own_d_prog_120_method_5_code_27) rfl rfl k_) ?_
  show OGo p.tables e below _ (T17.setTop (mkF m 28 #[.val (.ref a1), .val (.int (10 : Int32)), .val (.ref bz1), .val (.int (1 : Int32))] [(.ref a1), (.long (((10 : Int64) - (10 : Int32).toInt64) + (1 : Int32).toInt64)), (.ref b1), (.int (1 : Int32)), (.ref bz1)]))
  obtain ⟨T18, X18, ez18, st18⟩ := getF X17 hx hZ hown (host := "") (Or.inl (hw _ (List.mem_of_getElem? (i := 12) rfl))) Via.refl ez17 F_12 (g := (mkF m 28 #[.val (.ref a1), .val (.int (10 : Int32)), .val (.ref bz1), .val (.int (1 : Int32))] [(.ref a1), (.long (((10 : Int64) - (10 : Int32).toInt64) + (1 : Int32).toInt64)), (.ref b1), (.int (1 : Int32)), (.ref bz1)])) rfl rfl (hb hby own_d_prog_120_method_5_code_28)
  refine OGo.st st18 ?_
  show OGo p.tables e below _ (T18.setTop (mkF m 31 #[.val (.ref a1), .val (.int (10 : Int32)), .val (.ref bz1), .val (.int (1 : Int32))] [(.ref b1), (.long (((10 : Int64) - (10 : Int32).toInt64) + (1 : Int32).toInt64)), (.ref b1), (.int (1 : Int32)), (.ref bz1)]))
  have qz19 := own_alen X18 hx hZ ez18 Af_14 (g := (mkF m 31 #[.val (.ref a1), .val (.int (10 : Int32)), .val (.ref bz1), .val (.int (1 : Int32))] [(.ref b1), (.long (((10 : Int64) - (10 : Int32).toInt64) + (1 : Int32).toInt64)), (.ref b1), (.int (1 : Int32)), (.ref bz1)])) rfl rfl (hb hby own_d_prog_120_method_5_code_31)
  refine OGo.st qz19 ?_
  show OGo p.tables e below _ (T18.setTop (mkF m 32 #[.val (.ref a1), .val (.int (10 : Int32)), .val (.ref bz1), .val (.int (1 : Int32))] [(.int (10 : Int32)), (.long (((10 : Int64) - (10 : Int32).toInt64) + (1 : Int32).toInt64)), (.ref b1), (.int (1 : Int32)), (.ref bz1)]))
  refine OGo.st (fun _ k_ => XS.i2l X18.here hx rfl (hb hby own_d_prog_120_method_5_code_32) rfl k_) ?_
  show OGo p.tables e below _ (T18.setTop (mkF m 33 #[.val (.ref a1), .val (.int (10 : Int32)), .val (.ref bz1), .val (.int (1 : Int32))] [(.long (10 : Int32).toInt64), (.long (((10 : Int64) - (10 : Int32).toInt64) + (1 : Int32).toInt64)), (.ref b1), (.int (1 : Int32)), (.ref bz1)]))
  refine OGo.st (fun _ k_ => XS.lrem X18.here hx rfl (hb hby own_d_prog_120_method_5_code_33) rfl (by decide) k_) ?_
  show OGo p.tables e below _ (T18.setTop (mkF m 34 #[.val (.ref a1), .val (.int (10 : Int32)), .val (.ref bz1), .val (.int (1 : Int32))] [(.long ((((10 : Int64) - (10 : Int32).toInt64) + (1 : Int32).toInt64) - ((((10 : Int64) - (10 : Int32).toInt64) + (1 : Int32).toInt64) / (10 : Int32).toInt64) * (10 : Int32).toInt64)), (.ref b1), (.int (1 : Int32)), (.ref bz1)]))
  refine OGo.st (fun _ k_ => XS.l2i X18.here hx rfl (hb hby own_d_prog_120_method_5_code_34) rfl k_) ?_
  show OGo p.tables e below _ (T18.setTop (mkF m 35 #[.val (.ref a1), .val (.int (10 : Int32)), .val (.ref bz1), .val (.int (1 : Int32))] [(.int ((((10 : Int64) - (10 : Int32).toInt64) + (1 : Int32).toInt64) - ((((10 : Int64) - (10 : Int32).toInt64) + (1 : Int32).toInt64) / (10 : Int32).toInt64) * (10 : Int32).toInt64).toInt32), (.ref b1), (.int (1 : Int32)), (.ref bz1)]))
  have qz20 := own_ldJ X18 hx hZ ez18 Af_14 (j := ((((10 : Int64) - (10 : Int32).toInt64) + (1 : Int32).toInt64) - ((((10 : Int64) - (10 : Int32).toInt64) + (1 : Int32).toInt64) / (10 : Int32).toInt64) * (10 : Int32).toInt64).toInt32) (v := (w 1)) (by decide) (congrArg (own_L w) (show _ = 1 by decide)) (g := (mkF m 35 #[.val (.ref a1), .val (.int (10 : Int32)), .val (.ref bz1), .val (.int (1 : Int32))] [(.int ((((10 : Int64) - (10 : Int32).toInt64) + (1 : Int32).toInt64) - ((((10 : Int64) - (10 : Int32).toInt64) + (1 : Int32).toInt64) / (10 : Int32).toInt64) * (10 : Int32).toInt64).toInt32), (.ref b1), (.int (1 : Int32)), (.ref bz1)])) rfl rfl (hb hby own_d_prog_120_method_5_code_35)
  refine OGo.st qz20 ?_
  show OGo p.tables e below _ (T18.setTop (mkF m 36 #[.val (.ref a1), .val (.int (10 : Int32)), .val (.ref bz1), .val (.int (1 : Int32))] [(.long (w 1)), (.int (1 : Int32)), (.ref bz1)]))
  obtain ⟨T21, hz21, X21, ez21, W21, V21, st21⟩ := own_stJ X18 hx hZ ez18 V11 (j := (1 : Int32)) (by decide)  (g := (mkF m 36 #[.val (.ref a1), .val (.int (10 : Int32)), .val (.ref bz1), .val (.int (1 : Int32))] [(.long (w 1)), (.int (1 : Int32)), (.ref bz1)])) rfl rfl (hb hby own_d_prog_120_method_5_code_36)
  have F_22 := F_12.other W21 (Or.inl (Nat.ne_of_lt lt_a1_bz1))
  have F_23 := F_13.other W21 (Or.inl (Nat.ne_of_lt lt_a1_bz1))
  have Af_24 := Af_14.other W21 (Nat.ne_of_lt lt_b1_bz1)
  have N21 := Fr.snoc X21 N11 g_bz1
  have K_25 : Keep h0 hz21 [] := K_15.wr W21 (Or.inr sz_bz1)
  refine OGo.st st21 ?_
  show OGo p.tables e below _ (T21.setTop (mkF m 37 #[.val (.ref a1), .val (.int (10 : Int32)), .val (.ref bz1), .val (.int (1 : Int32))] []))
  refine OGo.st (fun _ k_ => XS.iinc X21.here hx rfl (hb hby own_d_prog_120_method_5_code_37) rfl (l' := #[.val (.ref a1), .val (.int (10 : Int32)), .val (.ref bz1), .val (.int (2 : Int32))]) rfl k_) ?_
  show OGo p.tables e below _ (T21.setTop (mkF m 40 #[.val (.ref a1), .val (.int (10 : Int32)), .val (.ref bz1), .val (.int (2 : Int32))] []))
  refine OGo.st (fun _ k_ => XS.goto X21.here hx rfl (pc0 := 40) (pc' := 6) rfl (hb hby own_d_prog_120_method_5_code_40) (by decide) (by decide) k_) ?_
  show OGo p.tables e below _ (T21.setTop (mkF m 6 #[.val (.ref a1), .val (.int (10 : Int32)), .val (.ref bz1), .val (.int (2 : Int32))] []))
  refine OGo.st (fun _ k_ => XS.iloadN X21.here hx rfl (hb hby own_d_prog_120_method_5_code_6) rfl k_) ?_
  show OGo p.tables e below _ (T21.setTop (mkF m 7 #[.val (.ref a1), .val (.int (10 : Int32)), .val (.ref bz1), .val (.int (2 : Int32))] [(.int (2 : Int32))]))
  refine OGo.st (fun _ k_ => XS.iconst X21.here hx rfl (hb hby own_d_prog_120_method_5_code_7) k_) ?_
  show OGo p.tables e below _ (T21.setTop (mkF m 8 #[.val (.ref a1), .val (.int (10 : Int32)), .val (.ref bz1), .val (.int (2 : Int32))] [(.int (5 : Int32)), (.int (2 : Int32))]))
  refine OGo.st (fun _ k_ => XS.icmpNo X21.here hx rfl (hb hby own_d_prog_120_method_5_code_8) rfl (XT.ii_ge_f (by decide)) k_) ?_
  show OGo p.tables e below _ (T21.setTop (mkF m 11 #[.val (.ref a1), .val (.int (10 : Int32)), .val (.ref bz1), .val (.int (2 : Int32))] []))
  refine OGo.st (fun _ k_ => XS.aloadN X21.here hx rfl (hb hby own_d_prog_120_method_5_code_11) rfl rfl k_) ?_
  show OGo p.tables e below _ (T21.setTop (mkF m 12 #[.val (.ref a1), .val (.int (10 : Int32)), .val (.ref bz1), .val (.int (2 : Int32))] [(.ref bz1)]))
  refine OGo.st (fun _ k_ => XS.iloadN X21.here hx rfl (hb hby own_d_prog_120_method_5_code_12) rfl k_) ?_
  show OGo p.tables e below _ (T21.setTop (mkF m 13 #[.val (.ref a1), .val (.int (10 : Int32)), .val (.ref bz1), .val (.int (2 : Int32))] [(.int (2 : Int32)), (.ref bz1)]))
  refine OGo.st (fun _ k_ => XS.aloadN X21.here hx rfl (hb hby own_d_prog_120_method_5_code_13) rfl rfl k_) ?_
  show OGo p.tables e below _ (T21.setTop (mkF m 14 #[.val (.ref a1), .val (.int (10 : Int32)), .val (.ref bz1), .val (.int (2 : Int32))] [(.ref a1), (.int (2 : Int32)), (.ref bz1)]))
  obtain ⟨T26, X26, ez26, st26⟩ := getF X21 hx hZ hown (host := "") (Or.inl (hw _ (List.mem_of_getElem? (i := 12) rfl))) Via.refl ez21 F_22 (g := (mkF m 14 #[.val (.ref a1), .val (.int (10 : Int32)), .val (.ref bz1), .val (.int (2 : Int32))] [(.ref a1), (.int (2 : Int32)), (.ref bz1)])) rfl rfl (hb hby own_d_prog_120_method_5_code_14)
  refine OGo.st st26 ?_
  show OGo p.tables e below _ (T26.setTop (mkF m 17 #[.val (.ref a1), .val (.int (10 : Int32)), .val (.ref bz1), .val (.int (2 : Int32))] [(.ref b1), (.int (2 : Int32)), (.ref bz1)]))
  refine OGo.st (fun _ k_ => XS.aloadN X26.here hx rfl (hb hby own_d_prog_120_method_5_code_17) rfl rfl k_) ?_
  show OGo p.tables e below _ (T26.setTop (mkF m 18 #[.val (.ref a1), .val (.int (10 : Int32)), .val (.ref bz1), .val (.int (2 : Int32))] [(.ref a1), (.ref b1), (.int (2 : Int32)), (.ref bz1)]))
  obtain ⟨T27, X27, ez27, st27⟩ := getF X26 hx hZ hown (host := "") (Or.inl (hw _ (List.mem_of_getElem? (i := 29) rfl))) Via.refl ez26 F_23 (g := (mkF m 18 #[.val (.ref a1), .val (.int (10 : Int32)), .val (.ref bz1), .val (.int (2 : Int32))] [(.ref a1), (.ref b1), (.int (2 : Int32)), (.ref bz1)])) rfl rfl (hb hby own_d_prog_120_method_5_code_18)
  refine OGo.st st27 ?_
  show OGo p.tables e below _ (T27.setTop (mkF m 21 #[.val (.ref a1), .val (.int (10 : Int32)), .val (.ref bz1), .val (.int (2 : Int32))] [(.long (10 : Int64)), (.ref b1), (.int (2 : Int32)), (.ref bz1)]))
  refine OGo.st (fun _ k_ => XS.iloadN X27.here hx rfl (hb hby own_d_prog_120_method_5_code_21) rfl k_) ?_
  show OGo p.tables e below _ (T27.setTop (mkF m 22 #[.val (.ref a1), .val (.int (10 : Int32)), .val (.ref bz1), .val (.int (2 : Int32))] [(.int (10 : Int32)), (.long (10 : Int64)), (.ref b1), (.int (2 : Int32)), (.ref bz1)]))
  refine OGo.st (fun _ k_ => XS.i2l X27.here hx rfl (hb hby own_d_prog_120_method_5_code_22) rfl k_) ?_
  show OGo p.tables e below _ (T27.setTop (mkF m 23 #[.val (.ref a1), .val (.int (10 : Int32)), .val (.ref bz1), .val (.int (2 : Int32))] [(.long (10 : Int32).toInt64), (.long (10 : Int64)), (.ref b1), (.int (2 : Int32)), (.ref bz1)]))
  refine OGo.st (fun _ k_ => XS.lsub X27.here hx rfl (hb hby own_d_prog_120_method_5_code_23) rfl k_) ?_
  show OGo p.tables e below _ (T27.setTop (mkF m 24 #[.val (.ref a1), .val (.int (10 : Int32)), .val (.ref bz1), .val (.int (2 : Int32))] [(.long ((10 : Int64) - (10 : Int32).toInt64)), (.ref b1), (.int (2 : Int32)), (.ref bz1)]))
  refine OGo.st (fun _ k_ => XS.iloadN X27.here hx rfl (hb hby own_d_prog_120_method_5_code_24) rfl k_) ?_
  show OGo p.tables e below _ (T27.setTop (mkF m 25 #[.val (.ref a1), .val (.int (10 : Int32)), .val (.ref bz1), .val (.int (2 : Int32))] [(.int (2 : Int32)), (.long ((10 : Int64) - (10 : Int32).toInt64)), (.ref b1), (.int (2 : Int32)), (.ref bz1)]))
  refine OGo.st (fun _ k_ => XS.i2l X27.here hx rfl (hb hby own_d_prog_120_method_5_code_25) rfl k_) ?_
  show OGo p.tables e below _ (T27.setTop (mkF m 26 #[.val (.ref a1), .val (.int (10 : Int32)), .val (.ref bz1), .val (.int (2 : Int32))] [(.long (2 : Int32).toInt64), (.long ((10 : Int64) - (10 : Int32).toInt64)), (.ref b1), (.int (2 : Int32)), (.ref bz1)]))
  refine OGo.st (fun _ k_ => XS.ladd X27.here hx rfl (hb hby own_d_prog_120_method_5_code_26) rfl k_) ?_
  show OGo p.tables e below _ (T27.setTop (mkF m 27 #[.val (.ref a1), .val (.int (10 : Int32)), .val (.ref bz1), .val (.int (2 : Int32))] [(.long (((10 : Int64) - (10 : Int32).toInt64) + (2 : Int32).toInt64)), (.ref b1), (.int (2 : Int32)), (.ref bz1)]))
  refine OGo.st (fun _ k_ => XS.aloadN X27.here hx rfl (hb hby own_d_prog_120_method_5_code_27) rfl rfl k_) ?_
  show OGo p.tables e below _ (T27.setTop (mkF m 28 #[.val (.ref a1), .val (.int (10 : Int32)), .val (.ref bz1), .val (.int (2 : Int32))] [(.ref a1), (.long (((10 : Int64) - (10 : Int32).toInt64) + (2 : Int32).toInt64)), (.ref b1), (.int (2 : Int32)), (.ref bz1)]))
  obtain ⟨T28, X28, ez28, st28⟩ := getF X27 hx hZ hown (host := "") (Or.inl (hw _ (List.mem_of_getElem? (i := 12) rfl))) Via.refl ez27 F_22 (g := (mkF m 28 #[.val (.ref a1), .val (.int (10 : Int32)), .val (.ref bz1), .val (.int (2 : Int32))] [(.ref a1), (.long (((10 : Int64) - (10 : Int32).toInt64) + (2 : Int32).toInt64)), (.ref b1), (.int (2 : Int32)), (.ref bz1)])) rfl rfl (hb hby own_d_prog_120_method_5_code_28)
  refine OGo.st st28 ?_
  show OGo p.tables e below _ (T28.setTop (mkF m 31 #[.val (.ref a1), .val (.int (10 : Int32)), .val (.ref bz1), .val (.int (2 : Int32))] [(.ref b1), (.long (((10 : Int64) - (10 : Int32).toInt64) + (2 : Int32).toInt64)), (.ref b1), (.int (2 : Int32)), (.ref bz1)]))
  have qz29 := own_alen X28 hx hZ ez28 Af_24 (g := (mkF m 31 #[.val (.ref a1), .val (.int (10 : Int32)), .val (.ref bz1), .val (.int (2 : Int32))] [(.ref b1), (.long (((10 : Int64) - (10 : Int32).toInt64) + (2 : Int32).toInt64)), (.ref b1), (.int (2 : Int32)), (.ref bz1)])) rfl rfl (hb hby own_d_prog_120_method_5_code_31)
  refine OGo.st qz29 ?_
  show OGo p.tables e below _ (T28.setTop (mkF m 32 #[.val (.ref a1), .val (.int (10 : Int32)), .val (.ref bz1), .val (.int (2 : Int32))] [(.int (10 : Int32)), (.long (((10 : Int64) - (10 : Int32).toInt64) + (2 : Int32).toInt64)), (.ref b1), (.int (2 : Int32)), (.ref bz1)]))
  refine OGo.st (fun _ k_ => XS.i2l X28.here hx rfl (hb hby own_d_prog_120_method_5_code_32) rfl k_) ?_
  show OGo p.tables e below _ (T28.setTop (mkF m 33 #[.val (.ref a1), .val (.int (10 : Int32)), .val (.ref bz1), .val (.int (2 : Int32))] [(.long (10 : Int32).toInt64), (.long (((10 : Int64) - (10 : Int32).toInt64) + (2 : Int32).toInt64)), (.ref b1), (.int (2 : Int32)), (.ref bz1)]))
  refine OGo.st (fun _ k_ => XS.lrem X28.here hx rfl (hb hby own_d_prog_120_method_5_code_33) rfl (by decide) k_) ?_
  show OGo p.tables e below _ (T28.setTop (mkF m 34 #[.val (.ref a1), .val (.int (10 : Int32)), .val (.ref bz1), .val (.int (2 : Int32))] [(.long ((((10 : Int64) - (10 : Int32).toInt64) + (2 : Int32).toInt64) - ((((10 : Int64) - (10 : Int32).toInt64) + (2 : Int32).toInt64) / (10 : Int32).toInt64) * (10 : Int32).toInt64)), (.ref b1), (.int (2 : Int32)), (.ref bz1)]))
  refine OGo.st (fun _ k_ => XS.l2i X28.here hx rfl (hb hby own_d_prog_120_method_5_code_34) rfl k_) ?_
  show OGo p.tables e below _ (T28.setTop (mkF m 35 #[.val (.ref a1), .val (.int (10 : Int32)), .val (.ref bz1), .val (.int (2 : Int32))] [(.int ((((10 : Int64) - (10 : Int32).toInt64) + (2 : Int32).toInt64) - ((((10 : Int64) - (10 : Int32).toInt64) + (2 : Int32).toInt64) / (10 : Int32).toInt64) * (10 : Int32).toInt64).toInt32), (.ref b1), (.int (2 : Int32)), (.ref bz1)]))
  have qz30 := own_ldJ X28 hx hZ ez28 Af_24 (j := ((((10 : Int64) - (10 : Int32).toInt64) + (2 : Int32).toInt64) - ((((10 : Int64) - (10 : Int32).toInt64) + (2 : Int32).toInt64) / (10 : Int32).toInt64) * (10 : Int32).toInt64).toInt32) (v := (w 2)) (by decide) (congrArg (own_L w) (show _ = 2 by decide)) (g := (mkF m 35 #[.val (.ref a1), .val (.int (10 : Int32)), .val (.ref bz1), .val (.int (2 : Int32))] [(.int ((((10 : Int64) - (10 : Int32).toInt64) + (2 : Int32).toInt64) - ((((10 : Int64) - (10 : Int32).toInt64) + (2 : Int32).toInt64) / (10 : Int32).toInt64) * (10 : Int32).toInt64).toInt32), (.ref b1), (.int (2 : Int32)), (.ref bz1)])) rfl rfl (hb hby own_d_prog_120_method_5_code_35)
  refine OGo.st qz30 ?_
  show OGo p.tables e below _ (T28.setTop (mkF m 36 #[.val (.ref a1), .val (.int (10 : Int32)), .val (.ref bz1), .val (.int (2 : Int32))] [(.long (w 2)), (.int (2 : Int32)), (.ref bz1)]))
  obtain ⟨T31, hz31, X31, ez31, W31, V31, st31⟩ := own_stJ X28 hx hZ ez28 V21 (j := (2 : Int32)) (by decide)  (g := (mkF m 36 #[.val (.ref a1), .val (.int (10 : Int32)), .val (.ref bz1), .val (.int (2 : Int32))] [(.long (w 2)), (.int (2 : Int32)), (.ref bz1)])) rfl rfl (hb hby own_d_prog_120_method_5_code_36)
  have F_32 := F_22.other W31 (Or.inl (Nat.ne_of_lt lt_a1_bz1))
  have F_33 := F_23.other W31 (Or.inl (Nat.ne_of_lt lt_a1_bz1))
  have Af_34 := Af_24.other W31 (Nat.ne_of_lt lt_b1_bz1)
  have N31 := Fr.snoc X31 N21 g_bz1
  have K_35 : Keep h0 hz31 [] := K_25.wr W31 (Or.inr sz_bz1)
  refine OGo.st st31 ?_
  show OGo p.tables e below _ (T31.setTop (mkF m 37 #[.val (.ref a1), .val (.int (10 : Int32)), .val (.ref bz1), .val (.int (2 : Int32))] []))
  refine OGo.st (fun _ k_ => XS.iinc X31.here hx rfl (hb hby own_d_prog_120_method_5_code_37) rfl (l' := #[.val (.ref a1), .val (.int (10 : Int32)), .val (.ref bz1), .val (.int (3 : Int32))]) rfl k_) ?_
  show OGo p.tables e below _ (T31.setTop (mkF m 40 #[.val (.ref a1), .val (.int (10 : Int32)), .val (.ref bz1), .val (.int (3 : Int32))] []))
  refine OGo.st (fun _ k_ => XS.goto X31.here hx rfl (pc0 := 40) (pc' := 6) rfl (hb hby own_d_prog_120_method_5_code_40) (by decide) (by decide) k_) ?_
  show OGo p.tables e below _ (T31.setTop (mkF m 6 #[.val (.ref a1), .val (.int (10 : Int32)), .val (.ref bz1), .val (.int (3 : Int32))] []))
  refine OGo.st (fun _ k_ => XS.iloadN X31.here hx rfl (hb hby own_d_prog_120_method_5_code_6) rfl k_) ?_
  show OGo p.tables e below _ (T31.setTop (mkF m 7 #[.val (.ref a1), .val (.int (10 : Int32)), .val (.ref bz1), .val (.int (3 : Int32))] [(.int (3 : Int32))]))
  refine OGo.st (fun _ k_ => XS.iconst X31.here hx rfl (hb hby own_d_prog_120_method_5_code_7) k_) ?_
  show OGo p.tables e below _ (T31.setTop (mkF m 8 #[.val (.ref a1), .val (.int (10 : Int32)), .val (.ref bz1), .val (.int (3 : Int32))] [(.int (5 : Int32)), (.int (3 : Int32))]))
  refine OGo.st (fun _ k_ => XS.icmpNo X31.here hx rfl (hb hby own_d_prog_120_method_5_code_8) rfl (XT.ii_ge_f (by decide)) k_) ?_
  show OGo p.tables e below _ (T31.setTop (mkF m 11 #[.val (.ref a1), .val (.int (10 : Int32)), .val (.ref bz1), .val (.int (3 : Int32))] []))
  refine OGo.st (fun _ k_ => XS.aloadN X31.here hx rfl (hb hby own_d_prog_120_method_5_code_11) rfl rfl k_) ?_
  show OGo p.tables e below _ (T31.setTop (mkF m 12 #[.val (.ref a1), .val (.int (10 : Int32)), .val (.ref bz1), .val (.int (3 : Int32))] [(.ref bz1)]))
  refine OGo.st (fun _ k_ => XS.iloadN X31.here hx rfl (hb hby own_d_prog_120_method_5_code_12) rfl k_) ?_
  show OGo p.tables e below _ (T31.setTop (mkF m 13 #[.val (.ref a1), .val (.int (10 : Int32)), .val (.ref bz1), .val (.int (3 : Int32))] [(.int (3 : Int32)), (.ref bz1)]))
  refine OGo.st (fun _ k_ => XS.aloadN X31.here hx rfl (hb hby own_d_prog_120_method_5_code_13) rfl rfl k_) ?_
  show OGo p.tables e below _ (T31.setTop (mkF m 14 #[.val (.ref a1), .val (.int (10 : Int32)), .val (.ref bz1), .val (.int (3 : Int32))] [(.ref a1), (.int (3 : Int32)), (.ref bz1)]))
  obtain ⟨T36, X36, ez36, st36⟩ := getF X31 hx hZ hown (host := "") (Or.inl (hw _ (List.mem_of_getElem? (i := 12) rfl))) Via.refl ez31 F_32 (g := (mkF m 14 #[.val (.ref a1), .val (.int (10 : Int32)), .val (.ref bz1), .val (.int (3 : Int32))] [(.ref a1), (.int (3 : Int32)), (.ref bz1)])) rfl rfl (hb hby own_d_prog_120_method_5_code_14)
  refine OGo.st st36 ?_
  show OGo p.tables e below _ (T36.setTop (mkF m 17 #[.val (.ref a1), .val (.int (10 : Int32)), .val (.ref bz1), .val (.int (3 : Int32))] [(.ref b1), (.int (3 : Int32)), (.ref bz1)]))
  refine OGo.st (fun _ k_ => XS.aloadN X36.here hx rfl (hb hby own_d_prog_120_method_5_code_17) rfl rfl k_) ?_
  show OGo p.tables e below _ (T36.setTop (mkF m 18 #[.val (.ref a1), .val (.int (10 : Int32)), .val (.ref bz1), .val (.int (3 : Int32))] [(.ref a1), (.ref b1), (.int (3 : Int32)), (.ref bz1)]))
  obtain ⟨T37, X37, ez37, st37⟩ := getF X36 hx hZ hown (host := "") (Or.inl (hw _ (List.mem_of_getElem? (i := 29) rfl))) Via.refl ez36 F_33 (g := (mkF m 18 #[.val (.ref a1), .val (.int (10 : Int32)), .val (.ref bz1), .val (.int (3 : Int32))] [(.ref a1), (.ref b1), (.int (3 : Int32)), (.ref bz1)])) rfl rfl (hb hby own_d_prog_120_method_5_code_18)
  refine OGo.st st37 ?_
  show OGo p.tables e below _ (T37.setTop (mkF m 21 #[.val (.ref a1), .val (.int (10 : Int32)), .val (.ref bz1), .val (.int (3 : Int32))] [(.long (10 : Int64)), (.ref b1), (.int (3 : Int32)), (.ref bz1)]))
  refine OGo.st (fun _ k_ => XS.iloadN X37.here hx rfl (hb hby own_d_prog_120_method_5_code_21) rfl k_) ?_
  show OGo p.tables e below _ (T37.setTop (mkF m 22 #[.val (.ref a1), .val (.int (10 : Int32)), .val (.ref bz1), .val (.int (3 : Int32))] [(.int (10 : Int32)), (.long (10 : Int64)), (.ref b1), (.int (3 : Int32)), (.ref bz1)]))
  refine OGo.st (fun _ k_ => XS.i2l X37.here hx rfl (hb hby own_d_prog_120_method_5_code_22) rfl k_) ?_
  show OGo p.tables e below _ (T37.setTop (mkF m 23 #[.val (.ref a1), .val (.int (10 : Int32)), .val (.ref bz1), .val (.int (3 : Int32))] [(.long (10 : Int32).toInt64), (.long (10 : Int64)), (.ref b1), (.int (3 : Int32)), (.ref bz1)]))
  refine OGo.st (fun _ k_ => XS.lsub X37.here hx rfl (hb hby own_d_prog_120_method_5_code_23) rfl k_) ?_
  show OGo p.tables e below _ (T37.setTop (mkF m 24 #[.val (.ref a1), .val (.int (10 : Int32)), .val (.ref bz1), .val (.int (3 : Int32))] [(.long ((10 : Int64) - (10 : Int32).toInt64)), (.ref b1), (.int (3 : Int32)), (.ref bz1)]))
  refine OGo.st (fun _ k_ => XS.iloadN X37.here hx rfl (hb hby own_d_prog_120_method_5_code_24) rfl k_) ?_
  show OGo p.tables e below _ (T37.setTop (mkF m 25 #[.val (.ref a1), .val (.int (10 : Int32)), .val (.ref bz1), .val (.int (3 : Int32))] [(.int (3 : Int32)), (.long ((10 : Int64) - (10 : Int32).toInt64)), (.ref b1), (.int (3 : Int32)), (.ref bz1)]))
  refine OGo.st (fun _ k_ => XS.i2l X37.here hx rfl (hb hby own_d_prog_120_method_5_code_25) rfl k_) ?_
  show OGo p.tables e below _ (T37.setTop (mkF m 26 #[.val (.ref a1), .val (.int (10 : Int32)), .val (.ref bz1), .val (.int (3 : Int32))] [(.long (3 : Int32).toInt64), (.long ((10 : Int64) - (10 : Int32).toInt64)), (.ref b1), (.int (3 : Int32)), (.ref bz1)]))
  refine OGo.st (fun _ k_ => XS.ladd X37.here hx rfl (hb hby own_d_prog_120_method_5_code_26) rfl k_) ?_
  show OGo p.tables e below _ (T37.setTop (mkF m 27 #[.val (.ref a1), .val (.int (10 : Int32)), .val (.ref bz1), .val (.int (3 : Int32))] [(.long (((10 : Int64) - (10 : Int32).toInt64) + (3 : Int32).toInt64)), (.ref b1), (.int (3 : Int32)), (.ref bz1)]))
  refine OGo.st (fun _ k_ => XS.aloadN X37.here hx rfl (hb hby own_d_prog_120_method_5_code_27) rfl rfl k_) ?_
  show OGo p.tables e below _ (T37.setTop (mkF m 28 #[.val (.ref a1), .val (.int (10 : Int32)), .val (.ref bz1), .val (.int (3 : Int32))] [(.ref a1), (.long (((10 : Int64) - (10 : Int32).toInt64) + (3 : Int32).toInt64)), (.ref b1), (.int (3 : Int32)), (.ref bz1)]))
  obtain ⟨T38, X38, ez38, st38⟩ := getF X37 hx hZ hown (host := "") (Or.inl (hw _ (List.mem_of_getElem? (i := 12) rfl))) Via.refl ez37 F_32 (g := (mkF m 28 #[.val (.ref a1), .val (.int (10 : Int32)), .val (.ref bz1), .val (.int (3 : Int32))] [(.ref a1), (.long (((10 : Int64) - (10 : Int32).toInt64) + (3 : Int32).toInt64)), (.ref b1), (.int (3 : Int32)), (.ref bz1)])) rfl rfl (hb hby own_d_prog_120_method_5_code_28)
  refine OGo.st st38 ?_
  show OGo p.tables e below _ (T38.setTop (mkF m 31 #[.val (.ref a1), .val (.int (10 : Int32)), .val (.ref bz1), .val (.int (3 : Int32))] [(.ref b1), (.long (((10 : Int64) - (10 : Int32).toInt64) + (3 : Int32).toInt64)), (.ref b1), (.int (3 : Int32)), (.ref bz1)]))
  have qz39 := own_alen X38 hx hZ ez38 Af_34 (g := (mkF m 31 #[.val (.ref a1), .val (.int (10 : Int32)), .val (.ref bz1), .val (.int (3 : Int32))] [(.ref b1), (.long (((10 : Int64) - (10 : Int32).toInt64) + (3 : Int32).toInt64)), (.ref b1), (.int (3 : Int32)), (.ref bz1)])) rfl rfl (hb hby own_d_prog_120_method_5_code_31)
  refine OGo.st qz39 ?_
  show OGo p.tables e below _ (T38.setTop (mkF m 32 #[.val (.ref a1), .val (.int (10 : Int32)), .val (.ref bz1), .val (.int (3 : Int32))] [(.int (10 : Int32)), (.long (((10 : Int64) - (10 : Int32).toInt64) + (3 : Int32).toInt64)), (.ref b1), (.int (3 : Int32)), (.ref bz1)]))
  refine OGo.st (fun _ k_ => XS.i2l X38.here hx rfl (hb hby own_d_prog_120_method_5_code_32) rfl k_) ?_
  show OGo p.tables e below _ (T38.setTop (mkF m 33 #[.val (.ref a1), .val (.int (10 : Int32)), .val (.ref bz1), .val (.int (3 : Int32))] [(.long (10 : Int32).toInt64), (.long (((10 : Int64) - (10 : Int32).toInt64) + (3 : Int32).toInt64)), (.ref b1), (.int (3 : Int32)), (.ref bz1)]))
  refine OGo.st (fun _ k_ => XS.lrem X38.here hx rfl (hb hby own_d_prog_120_method_5_code_33) rfl (by decide) k_) ?_
  show OGo p.tables e below _ (T38.setTop (mkF m 34 #[.val (.ref a1), .val (.int (10 : Int32)), .val (.ref bz1), .val (.int (3 : Int32))] [(.long ((((10 : Int64) - (10 : Int32).toInt64) + (3 : Int32).toInt64) - ((((10 : Int64) - (10 : Int32).toInt64) + (3 : Int32).toInt64) / (10 : Int32).toInt64) * (10 : Int32).toInt64)), (.ref b1), (.int (3 : Int32)), (.ref bz1)]))
  refine OGo.st (fun _ k_ => XS.l2i X38.here hx rfl (hb hby own_d_prog_120_method_5_code_34) rfl k_) ?_
  show OGo p.tables e below _ (T38.setTop (mkF m 35 #[.val (.ref a1), .val (.int (10 : Int32)), .val (.ref bz1), .val (.int (3 : Int32))] [(.int ((((10 : Int64) - (10 : Int32).toInt64) + (3 : Int32).toInt64) - ((((10 : Int64) - (10 : Int32).toInt64) + (3 : Int32).toInt64) / (10 : Int32).toInt64) * (10 : Int32).toInt64).toInt32), (.ref b1), (.int (3 : Int32)), (.ref bz1)]))
  have qz40 := own_ldJ X38 hx hZ ez38 Af_34 (j := ((((10 : Int64) - (10 : Int32).toInt64) + (3 : Int32).toInt64) - ((((10 : Int64) - (10 : Int32).toInt64) + (3 : Int32).toInt64) / (10 : Int32).toInt64) * (10 : Int32).toInt64).toInt32) (v := (w 3)) (by decide) (congrArg (own_L w) (show _ = 3 by decide)) (g := (mkF m 35 #[.val (.ref a1), .val (.int (10 : Int32)), .val (.ref bz1), .val (.int (3 : Int32))] [(.int ((((10 : Int64) - (10 : Int32).toInt64) + (3 : Int32).toInt64) - ((((10 : Int64) - (10 : Int32).toInt64) + (3 : Int32).toInt64) / (10 : Int32).toInt64) * (10 : Int32).toInt64).toInt32), (.ref b1), (.int (3 : Int32)), (.ref bz1)])) rfl rfl (hb hby own_d_prog_120_method_5_code_35)
  refine OGo.st qz40 ?_
  show OGo p.tables e below _ (T38.setTop (mkF m 36 #[.val (.ref a1), .val (.int (10 : Int32)), .val (.ref bz1), .val (.int (3 : Int32))] [(.long (w 3)), (.int (3 : Int32)), (.ref bz1)]))
  obtain ⟨T41, hz41, X41, ez41, W41, V41, st41⟩ := own_stJ X38 hx hZ ez38 V31 (j := (3 : Int32)) (by decide)  (g := (mkF m 36 #[.val (.ref a1), .val (.int (10 : Int32)), .val (.ref bz1), .val (.int (3 : Int32))] [(.long (w 3)), (.int (3 : Int32)), (.ref bz1)])) rfl rfl (hb hby own_d_prog_120_method_5_code_36)
  have F_42 := F_32.other W41 (Or.inl (Nat.ne_of_lt lt_a1_bz1))
  have F_43 := F_33.other W41 (Or.inl (Nat.ne_of_lt lt_a1_bz1))
  have Af_44 := Af_34.other W41 (Nat.ne_of_lt lt_b1_bz1)
  have N41 := Fr.snoc X41 N31 g_bz1
  have K_45 : Keep h0 hz41 [] := K_35.wr W41 (Or.inr sz_bz1)
  refine OGo.st st41 ?_
  show OGo p.tables e below _ (T41.setTop (mkF m 37 #[.val (.ref a1), .val (.int (10 : Int32)), .val (.ref bz1), .val (.int (3 : Int32))] []))
  refine OGo.st (fun _ k_ => XS.iinc X41.here hx rfl (hb hby own_d_prog_120_method_5_code_37) rfl (l' := #[.val (.ref a1), .val (.int (10 : Int32)), .val (.ref bz1), .val (.int (4 : Int32))]) rfl k_) ?_
  show OGo p.tables e below _ (T41.setTop (mkF m 40 #[.val (.ref a1), .val (.int (10 : Int32)), .val (.ref bz1), .val (.int (4 : Int32))] []))
  refine OGo.st (fun _ k_ => XS.goto X41.here hx rfl (pc0 := 40) (pc' := 6) rfl (hb hby own_d_prog_120_method_5_code_40) (by decide) (by decide) k_) ?_
  show OGo p.tables e below _ (T41.setTop (mkF m 6 #[.val (.ref a1), .val (.int (10 : Int32)), .val (.ref bz1), .val (.int (4 : Int32))] []))
  refine OGo.st (fun _ k_ => XS.iloadN X41.here hx rfl (hb hby own_d_prog_120_method_5_code_6) rfl k_) ?_
  show OGo p.tables e below _ (T41.setTop (mkF m 7 #[.val (.ref a1), .val (.int (10 : Int32)), .val (.ref bz1), .val (.int (4 : Int32))] [(.int (4 : Int32))]))
  refine OGo.st (fun _ k_ => XS.iconst X41.here hx rfl (hb hby own_d_prog_120_method_5_code_7) k_) ?_
  show OGo p.tables e below _ (T41.setTop (mkF m 8 #[.val (.ref a1), .val (.int (10 : Int32)), .val (.ref bz1), .val (.int (4 : Int32))] [(.int (5 : Int32)), (.int (4 : Int32))]))
  refine OGo.st (fun _ k_ => XS.icmpNo X41.here hx rfl (hb hby own_d_prog_120_method_5_code_8) rfl (XT.ii_ge_f (by decide)) k_) ?_
  show OGo p.tables e below _ (T41.setTop (mkF m 11 #[.val (.ref a1), .val (.int (10 : Int32)), .val (.ref bz1), .val (.int (4 : Int32))] []))
  refine OGo.st (fun _ k_ => XS.aloadN X41.here hx rfl (hb hby own_d_prog_120_method_5_code_11) rfl rfl k_) ?_
  show OGo p.tables e below _ (T41.setTop (mkF m 12 #[.val (.ref a1), .val (.int (10 : Int32)), .val (.ref bz1), .val (.int (4 : Int32))] [(.ref bz1)]))
  refine OGo.st (fun _ k_ => XS.iloadN X41.here hx rfl (hb hby own_d_prog_120_method_5_code_12) rfl k_) ?_
  show OGo p.tables e below _ (T41.setTop (mkF m 13 #[.val (.ref a1), .val (.int (10 : Int32)), .val (.ref bz1), .val (.int (4 : Int32))] [(.int (4 : Int32)), (.ref bz1)]))
  refine OGo.st (fun _ k_ => XS.aloadN X41.here hx rfl (hb hby own_d_prog_120_method_5_code_13) rfl rfl k_) ?_
  show OGo p.tables e below _ (T41.setTop (mkF m 14 #[.val (.ref a1), .val (.int (10 : Int32)), .val (.ref bz1), .val (.int (4 : Int32))] [(.ref a1), (.int (4 : Int32)), (.ref bz1)]))
  obtain ⟨T46, X46, ez46, st46⟩ := getF X41 hx hZ hown (host := "") (Or.inl (hw _ (List.mem_of_getElem? (i := 12) rfl))) Via.refl ez41 F_42 (g := (mkF m 14 #[.val (.ref a1), .val (.int (10 : Int32)), .val (.ref bz1), .val (.int (4 : Int32))] [(.ref a1), (.int (4 : Int32)), (.ref bz1)])) rfl rfl (hb hby own_d_prog_120_method_5_code_14)
  refine OGo.st st46 ?_
  show OGo p.tables e below _ (T46.setTop (mkF m 17 #[.val (.ref a1), .val (.int (10 : Int32)), .val (.ref bz1), .val (.int (4 : Int32))] [(.ref b1), (.int (4 : Int32)), (.ref bz1)]))
  refine OGo.st (fun _ k_ => XS.aloadN X46.here hx rfl (hb hby own_d_prog_120_method_5_code_17) rfl rfl k_) ?_
  show OGo p.tables e below _ (T46.setTop (mkF m 18 #[.val (.ref a1), .val (.int (10 : Int32)), .val (.ref bz1), .val (.int (4 : Int32))] [(.ref a1), (.ref b1), (.int (4 : Int32)), (.ref bz1)]))
  obtain ⟨T47, X47, ez47, st47⟩ := getF X46 hx hZ hown (host := "") (Or.inl (hw _ (List.mem_of_getElem? (i := 29) rfl))) Via.refl ez46 F_43 (g := (mkF m 18 #[.val (.ref a1), .val (.int (10 : Int32)), .val (.ref bz1), .val (.int (4 : Int32))] [(.ref a1), (.ref b1), (.int (4 : Int32)), (.ref bz1)])) rfl rfl (hb hby own_d_prog_120_method_5_code_18)
  refine OGo.st st47 ?_
  show OGo p.tables e below _ (T47.setTop (mkF m 21 #[.val (.ref a1), .val (.int (10 : Int32)), .val (.ref bz1), .val (.int (4 : Int32))] [(.long (10 : Int64)), (.ref b1), (.int (4 : Int32)), (.ref bz1)]))
  refine OGo.st (fun _ k_ => XS.iloadN X47.here hx rfl (hb hby own_d_prog_120_method_5_code_21) rfl k_) ?_
  show OGo p.tables e below _ (T47.setTop (mkF m 22 #[.val (.ref a1), .val (.int (10 : Int32)), .val (.ref bz1), .val (.int (4 : Int32))] [(.int (10 : Int32)), (.long (10 : Int64)), (.ref b1), (.int (4 : Int32)), (.ref bz1)]))
  refine OGo.st (fun _ k_ => XS.i2l X47.here hx rfl (hb hby own_d_prog_120_method_5_code_22) rfl k_) ?_
  show OGo p.tables e below _ (T47.setTop (mkF m 23 #[.val (.ref a1), .val (.int (10 : Int32)), .val (.ref bz1), .val (.int (4 : Int32))] [(.long (10 : Int32).toInt64), (.long (10 : Int64)), (.ref b1), (.int (4 : Int32)), (.ref bz1)]))
  refine OGo.st (fun _ k_ => XS.lsub X47.here hx rfl (hb hby own_d_prog_120_method_5_code_23) rfl k_) ?_
  show OGo p.tables e below _ (T47.setTop (mkF m 24 #[.val (.ref a1), .val (.int (10 : Int32)), .val (.ref bz1), .val (.int (4 : Int32))] [(.long ((10 : Int64) - (10 : Int32).toInt64)), (.ref b1), (.int (4 : Int32)), (.ref bz1)]))
  refine OGo.st (fun _ k_ => XS.iloadN X47.here hx rfl (hb hby own_d_prog_120_method_5_code_24) rfl k_) ?_
  show OGo p.tables e below _ (T47.setTop (mkF m 25 #[.val (.ref a1), .val (.int (10 : Int32)), .val (.ref bz1), .val (.int (4 : Int32))] [(.int (4 : Int32)), (.long ((10 : Int64) - (10 : Int32).toInt64)), (.ref b1), (.int (4 : Int32)), (.ref bz1)]))
  refine OGo.st (fun _ k_ => XS.i2l X47.here hx rfl (hb hby own_d_prog_120_method_5_code_25) rfl k_) ?_
  show OGo p.tables e below _ (T47.setTop (mkF m 26 #[.val (.ref a1), .val (.int (10 : Int32)), .val (.ref bz1), .val (.int (4 : Int32))] [(.long (4 : Int32).toInt64), (.long ((10 : Int64) - (10 : Int32).toInt64)), (.ref b1), (.int (4 : Int32)), (.ref bz1)]))
  refine OGo.st (fun _ k_ => XS.ladd X47.here hx rfl (hb hby own_d_prog_120_method_5_code_26) rfl k_) ?_
  show OGo p.tables e below _ (T47.setTop (mkF m 27 #[.val (.ref a1), .val (.int (10 : Int32)), .val (.ref bz1), .val (.int (4 : Int32))] [(.long (((10 : Int64) - (10 : Int32).toInt64) + (4 : Int32).toInt64)), (.ref b1), (.int (4 : Int32)), (.ref bz1)]))
  refine OGo.st (fun _ k_ => XS.aloadN X47.here hx rfl (hb hby own_d_prog_120_method_5_code_27) rfl rfl k_) ?_
  show OGo p.tables e below _ (T47.setTop (mkF m 28 #[.val (.ref a1), .val (.int (10 : Int32)), .val (.ref bz1), .val (.int (4 : Int32))] [(.ref a1), (.long (((10 : Int64) - (10 : Int32).toInt64) + (4 : Int32).toInt64)), (.ref b1), (.int (4 : Int32)), (.ref bz1)]))
  obtain ⟨T48, X48, ez48, st48⟩ := getF X47 hx hZ hown (host := "") (Or.inl (hw _ (List.mem_of_getElem? (i := 12) rfl))) Via.refl ez47 F_42 (g := (mkF m 28 #[.val (.ref a1), .val (.int (10 : Int32)), .val (.ref bz1), .val (.int (4 : Int32))] [(.ref a1), (.long (((10 : Int64) - (10 : Int32).toInt64) + (4 : Int32).toInt64)), (.ref b1), (.int (4 : Int32)), (.ref bz1)])) rfl rfl (hb hby own_d_prog_120_method_5_code_28)
  refine OGo.st st48 ?_
  show OGo p.tables e below _ (T48.setTop (mkF m 31 #[.val (.ref a1), .val (.int (10 : Int32)), .val (.ref bz1), .val (.int (4 : Int32))] [(.ref b1), (.long (((10 : Int64) - (10 : Int32).toInt64) + (4 : Int32).toInt64)), (.ref b1), (.int (4 : Int32)), (.ref bz1)]))
  have qz49 := own_alen X48 hx hZ ez48 Af_44 (g := (mkF m 31 #[.val (.ref a1), .val (.int (10 : Int32)), .val (.ref bz1), .val (.int (4 : Int32))] [(.ref b1), (.long (((10 : Int64) - (10 : Int32).toInt64) + (4 : Int32).toInt64)), (.ref b1), (.int (4 : Int32)), (.ref bz1)])) rfl rfl (hb hby own_d_prog_120_method_5_code_31)
  refine OGo.st qz49 ?_
  show OGo p.tables e below _ (T48.setTop (mkF m 32 #[.val (.ref a1), .val (.int (10 : Int32)), .val (.ref bz1), .val (.int (4 : Int32))] [(.int (10 : Int32)), (.long (((10 : Int64) - (10 : Int32).toInt64) + (4 : Int32).toInt64)), (.ref b1), (.int (4 : Int32)), (.ref bz1)]))
  refine OGo.st (fun _ k_ => XS.i2l X48.here hx rfl (hb hby own_d_prog_120_method_5_code_32) rfl k_) ?_
  show OGo p.tables e below _ (T48.setTop (mkF m 33 #[.val (.ref a1), .val (.int (10 : Int32)), .val (.ref bz1), .val (.int (4 : Int32))] [(.long (10 : Int32).toInt64), (.long (((10 : Int64) - (10 : Int32).toInt64) + (4 : Int32).toInt64)), (.ref b1), (.int (4 : Int32)), (.ref bz1)]))
  refine OGo.st (fun _ k_ => XS.lrem X48.here hx rfl (hb hby own_d_prog_120_method_5_code_33) rfl (by decide) k_) ?_
  show OGo p.tables e below _ (T48.setTop (mkF m 34 #[.val (.ref a1), .val (.int (10 : Int32)), .val (.ref bz1), .val (.int (4 : Int32))] [(.long ((((10 : Int64) - (10 : Int32).toInt64) + (4 : Int32).toInt64) - ((((10 : Int64) - (10 : Int32).toInt64) + (4 : Int32).toInt64) / (10 : Int32).toInt64) * (10 : Int32).toInt64)), (.ref b1), (.int (4 : Int32)), (.ref bz1)]))
  refine OGo.st (fun _ k_ => XS.l2i X48.here hx rfl (hb hby own_d_prog_120_method_5_code_34) rfl k_) ?_
  show OGo p.tables e below _ (T48.setTop (mkF m 35 #[.val (.ref a1), .val (.int (10 : Int32)), .val (.ref bz1), .val (.int (4 : Int32))] [(.int ((((10 : Int64) - (10 : Int32).toInt64) + (4 : Int32).toInt64) - ((((10 : Int64) - (10 : Int32).toInt64) + (4 : Int32).toInt64) / (10 : Int32).toInt64) * (10 : Int32).toInt64).toInt32), (.ref b1), (.int (4 : Int32)), (.ref bz1)]))
  have qz50 := own_ldJ X48 hx hZ ez48 Af_44 (j := ((((10 : Int64) - (10 : Int32).toInt64) + (4 : Int32).toInt64) - ((((10 : Int64) - (10 : Int32).toInt64) + (4 : Int32).toInt64) / (10 : Int32).toInt64) * (10 : Int32).toInt64).toInt32) (v := (w 4)) (by decide) (congrArg (own_L w) (show _ = 4 by decide)) (g := (mkF m 35 #[.val (.ref a1), .val (.int (10 : Int32)), .val (.ref bz1), .val (.int (4 : Int32))] [(.int ((((10 : Int64) - (10 : Int32).toInt64) + (4 : Int32).toInt64) - ((((10 : Int64) - (10 : Int32).toInt64) + (4 : Int32).toInt64) / (10 : Int32).toInt64) * (10 : Int32).toInt64).toInt32), (.ref b1), (.int (4 : Int32)), (.ref bz1)])) rfl rfl (hb hby own_d_prog_120_method_5_code_35)
  refine OGo.st qz50 ?_
  show OGo p.tables e below _ (T48.setTop (mkF m 36 #[.val (.ref a1), .val (.int (10 : Int32)), .val (.ref bz1), .val (.int (4 : Int32))] [(.long (w 4)), (.int (4 : Int32)), (.ref bz1)]))
  obtain ⟨T51, hz51, X51, ez51, W51, V51, st51⟩ := own_stJ X48 hx hZ ez48 V41 (j := (4 : Int32)) (by decide)  (g := (mkF m 36 #[.val (.ref a1), .val (.int (10 : Int32)), .val (.ref bz1), .val (.int (4 : Int32))] [(.long (w 4)), (.int (4 : Int32)), (.ref bz1)])) rfl rfl (hb hby own_d_prog_120_method_5_code_36)
  have F_52 := F_42.other W51 (Or.inl (Nat.ne_of_lt lt_a1_bz1))
  have F_53 := F_43.other W51 (Or.inl (Nat.ne_of_lt lt_a1_bz1))
  have Af_54 := Af_44.other W51 (Nat.ne_of_lt lt_b1_bz1)
  have N51 := Fr.snoc X51 N41 g_bz1
  have K_55 : Keep h0 hz51 [] := K_45.wr W51 (Or.inr sz_bz1)
  refine OGo.st st51 ?_
  show OGo p.tables e below _ (T51.setTop (mkF m 37 #[.val (.ref a1), .val (.int (10 : Int32)), .val (.ref bz1), .val (.int (4 : Int32))] []))
  refine OGo.st (fun _ k_ => XS.iinc X51.here hx rfl (hb hby own_d_prog_120_method_5_code_37) rfl (l' := #[.val (.ref a1), .val (.int (10 : Int32)), .val (.ref bz1), .val (.int (5 : Int32))]) rfl k_) ?_
  show OGo p.tables e below _ (T51.setTop (mkF m 40 #[.val (.ref a1), .val (.int (10 : Int32)), .val (.ref bz1), .val (.int (5 : Int32))] []))
  refine OGo.st (fun _ k_ => XS.goto X51.here hx rfl (pc0 := 40) (pc' := 6) rfl (hb hby own_d_prog_120_method_5_code_40) (by decide) (by decide) k_) ?_
  show OGo p.tables e below _ (T51.setTop (mkF m 6 #[.val (.ref a1), .val (.int (10 : Int32)), .val (.ref bz1), .val (.int (5 : Int32))] []))
  refine OGo.st (fun _ k_ => XS.iloadN X51.here hx rfl (hb hby own_d_prog_120_method_5_code_6) rfl k_) ?_
  show OGo p.tables e below _ (T51.setTop (mkF m 7 #[.val (.ref a1), .val (.int (10 : Int32)), .val (.ref bz1), .val (.int (5 : Int32))] [(.int (5 : Int32))]))
  refine OGo.st (fun _ k_ => XS.iconst X51.here hx rfl (hb hby own_d_prog_120_method_5_code_7) k_) ?_
  show OGo p.tables e below _ (T51.setTop (mkF m 8 #[.val (.ref a1), .val (.int (10 : Int32)), .val (.ref bz1), .val (.int (5 : Int32))] [(.int (5 : Int32)), (.int (5 : Int32))]))
  refine OGo.st (fun _ k_ => XS.icmpYes X51.here hx rfl (pc0 := 8) (pc' := 43) rfl (hb hby own_d_prog_120_method_5_code_8) rfl (XT.ii_ge_t (by decide)) (by decide) (by decide) k_) ?_
  have Af_56 : Arf Z hz51 bz1 kz1 .long (5 : Int32) (own_L (fun i => w (0 + i))) := V51.congr (fun i hi => match i, hi with | 0, _ => rfl | 1, _ => rfl | 2, _ => rfl | 3, _ => rfl | 4, _ => rfl | (n_ + 5), q_ => absurd q_ (by show ¬ n_ + 5 < 5; omega))
  show OGo p.tables e below _ (T51.setTop (mkF m 43 #[.val (.ref a1), .val (.int (10 : Int32)), .val (.ref bz1), .val (.int (5 : Int32))] []))
  refine OGo.st (fun _ k_ => XS.aloadN X51.here hx rfl (hb hby own_d_prog_120_method_5_code_43) rfl rfl k_) ?_
  show OGo p.tables e below _ (T51.setTop (mkF m 44 #[.val (.ref a1), .val (.int (10 : Int32)), .val (.ref bz1), .val (.int (5 : Int32))] [(.ref bz1)]))
  obtain ⟨_, _, ⟨T57, Lz57, kz57, nz57⟩, -, X57, ⟨Lc57, hQ57, lz57, yz57, zz57⟩, st57⟩ := Jvm.LawKit.callS X51 hx (y := (⟨"java/util/Arrays", "sort", "([J)V"⟩ : MethodName)) hown (mvT hZ (hw _ (List.mem_of_getElem? (i := 58) rfl))) (mvT hZ (hw _ (List.mem_of_getElem? (i := 59) rfl))) (mvT hZ (hw _ (List.mem_of_getElem? (i := 60) rfl))) (mvT hZ (hw _ (List.mem_of_getElem? (i := 61) rfl))) (by decide) (backOf (W := 0) (rm8 l Z a0 hw [] bz1 kz1 (fun i => w (0 + i)) hz51 n0 (Nat.le_trans Z0 K_55.1) Af_56 g_bz1) hZ (hw _ (List.mem_of_getElem? (i := 61) rfl)) (hw _ (List.mem_of_getElem? (i := 60) rfl)) (by decide) (by decide)) (g := (mkF m 44 #[.val (.ref a1), .val (.int (10 : Int32)), .val (.ref bz1), .val (.int (5 : Int32))] [(.ref bz1)])) rfl (by rw [hml]; rfl) (argsL := [(.ref bz1)]) (rest := []) (lenOf own_pd4 rfl) rfl (by show 2 * 0 + _ ≤ _; exact Nat.le_of_eq rfl) (hb hby own_d_prog_120_method_5_code_44) (fun _ _ => ⟨rfl, ez51, (by decide : 1 + 0 ≤ _), (by decide : 5 + 0 ≤ _)⟩)
  dsimp only [Pt.U, Pt.locs, Pt.cells, Pt.slots] at X57 lz57 yz57 zz57 st57 hQ57
  have X57 := own_reb X57 lz57 yz57 zz57
  have X57 : Stand p l e ({ frames := 4, cells := 1, slots := 5, locals := 84 } : Room) s m #[(.ref a1), (.int (10 : Int32))] below meth c T57 _ 1 5 := X57
  obtain ⟨hvq57, Nq57, Kq57, w57_, A57q, I57q⟩ := hQ57
  rw [hvq57] at st57
  have N57 := Fr.app N51 Nq57
  have F_58 := F_52.keep Kq57 (ninS (Nat.ne_of_lt lt_a1_bz1) nin0)
  have F_59 := F_53.keep Kq57 (ninS (Nat.ne_of_lt lt_a1_bz1) nin0)
  have Af_60 := Af_54.keep Kq57 (ninS (Nat.ne_of_lt lt_b1_bz1) nin0)
  have K_61 : Keep h0 T57.heap [] := K_55.trans Kq57 (allS (Or.inr sz_bz1) all0)
  refine OGo.st st57 ?_
  show OGo p.tables e below _ (T57.setTop (mkF m 47 #[.val (.ref a1), .val (.int (10 : Int32)), .val (.ref bz1), .val (.int (5 : Int32))] []))
  refine OGo.st (fun _ k_ => XS.aloadN X57.here hx rfl (hb hby own_d_prog_120_method_5_code_47) rfl rfl k_) ?_
  show OGo p.tables e below _ (T57.setTop (mkF m 48 #[.val (.ref a1), .val (.int (10 : Int32)), .val (.ref bz1), .val (.int (5 : Int32))] [(.ref bz1)]))
  refine OGo.st (fun _ k_ => XS.iconst X57.here hx rfl (hb hby own_d_prog_120_method_5_code_48) k_) ?_
  show OGo p.tables e below _ (T57.setTop (mkF m 49 #[.val (.ref a1), .val (.int (10 : Int32)), .val (.ref bz1), .val (.int (5 : Int32))] [(.int (2 : Int32)), (.ref bz1)]))
  have qz62 := own_ldJ X57 hx hZ rfl A57q (j := (2 : Int32)) (v := (w57_ 2)) (by decide) rfl (g := (mkF m 49 #[.val (.ref a1), .val (.int (10 : Int32)), .val (.ref bz1), .val (.int (5 : Int32))] [(.int (2 : Int32)), (.ref bz1)])) rfl rfl (hb hby own_d_prog_120_method_5_code_49)
  refine OGo.st qz62 ?_
  show OGo p.tables e below _ (T57.setTop (mkF m 50 #[.val (.ref a1), .val (.int (10 : Int32)), .val (.ref bz1), .val (.int (5 : Int32))] [(.long (w57_ 2))]))
  refine OGo.fin X57 (v := some (.long (w57_ 2))) (fun h => by rw [Bd.returns] at h; cases h) hlk (fun fs hr => X57.lreturnOut hx Bd.returns (hb hby own_d_prog_120_method_5_code_50) hr) ?_ (by decide) (by decide)
  show own_Q_rm10 Z a1 b1 k1 w lo hi h0 n0 _ T57.heap _
  skip
  exact ⟨by rw [own_medI I57q hl (fun i q => hv _ (by omega))], N57, K_61⟩
theorem own_d_jdk_29_method_66_code_0 : decode jdk_29_method_66_code 0 = .ok (.lload_n 0, 1) := by decide +kernel
theorem own_d_jdk_29_method_66_code_1 : decode jdk_29_method_66_code 1 = .ok (.lload_n 2, 1) := by decide +kernel
theorem own_d_jdk_29_method_66_code_2 : decode jdk_29_method_66_code 2 = .ok (.lcmp, 1) := by decide +kernel
theorem own_d_jdk_29_method_66_code_3 : decode jdk_29_method_66_code 3 = .ok (.ifCond .lt 7, 3) := by decide +kernel
theorem own_d_jdk_29_method_66_code_10 : decode jdk_29_method_66_code 10 = .ok (.lload_n 2, 1) := by decide +kernel
theorem own_d_jdk_29_method_66_code_11 : decode jdk_29_method_66_code 11 = .ok (.lreturn, 1) := by decide +kernel
theorem own_d_jdk_29_method_66_code_6 : decode jdk_29_method_66_code 6 = .ok (.lload_n 0, 1) := by decide +kernel
theorem own_d_jdk_29_method_66_code_7 : decode jdk_29_method_66_code 7 = .ok (.goto 4, 3) := by decide +kernel
theorem own_ef_rm11 (m : MethodId) (x0 : Int64) (x1 : Int64) : entryFrame m #[(.long x0), (.long x1)] 4 = mkF m 0 #[.val (.long x0), .second, .val (.long x1), .second] [] := by first | (simp [entryFrame, mkF, argsToLocals, Value.category]; done) | rfl
def own_Q_rm11 (Z : State) (q1 q2 : Int64) (h0 : Heap) (n0 : Nat) (v : Option Value) (h : Heap) (L : List Loc) : Prop := v = some (.long (own_maxJ q1 q2)) ∧ Fr n0 L ∧ h = h0
set_option maxRecDepth 65536 in
set_option maxHeartbeats 40000000 in
theorem rm11 (l : Launch) (Z : State) (a0 : Array Value) (hw : ∀ d ∈ tables_1, d.before a0 Z = true) (ws : List Jvm.Cond) (q1 q2 : Int64) (h0 : Heap) (n0 : Nat) (Z0 : n0 ≤ h0.size)  :
    OMet l Z (⟨"java/lang/Math", "max", "(JJ)J"⟩ : MethodName) jdk_29_method_66_code 4 (some .long) ws ({ frames := 0, cells := 0, slots := 0, locals := 0 } : Room) #[(.long q1), (.long q2)] h0 (own_Q_rm11 Z q1 q2 h0 n0) := by
  refine MetFree.of_bodySF (Jvm.Free.JP.mathPlain rfl (by decide +kernel)) hisR ?_
  intro p e s m args below meth c s₁ Bd hml0 hP hK
  obtain ⟨rfl, hZ, hh⟩ := hP
  have hx := Bd.exec
  have hby := Bd.bytes
  have hml : c.maxLocals = 4 := hml0
  have hown : s.vm.findClass "java/lang/Math" = some m.cls := findClass_of_methodNamed Bd.named
  have hnm := (name_of_methodNamed Bd.named Bd.method).1
  have hlk : meth.locks = false := Bd.notSynchronized
  have X0 : Stand p l e ({ frames := 0, cells := 0, slots := 0, locals := 0 } : Room) s m #[(.long q1), (.long q2)] below meth c s₁ [] 0 0 := Stand.of_body Bd
  have e0 : s₁.heap = h0 := by rw [← hh, Bd.state]; rfl
  have N0 := Fr.nil n0
  refine OGo.enter (P := OPost s (own_Q_rm11 Z q1 q2 h0 n0) 0 0) (own_ef_rm11 m q1 q2) ?_
  show OGo p.tables e below _ (s₁.setTop (mkF m 0 #[.val (.long q1), .second, .val (.long q2), .second] []))
  refine OGo.st (fun _ k_ => XS.lloadN X0.here hx rfl (hb hby own_d_jdk_29_method_66_code_0) rfl k_) ?_
  show OGo p.tables e below _ (s₁.setTop (mkF m 1 #[.val (.long q1), .second, .val (.long q2), .second] [(.long q1)]))
  refine OGo.st (fun _ k_ => XS.lloadN X0.here hx rfl (hb hby own_d_jdk_29_method_66_code_1) rfl k_) ?_
  show OGo p.tables e below _ (s₁.setTop (mkF m 2 #[.val (.long q1), .second, .val (.long q2), .second] [(.long q2), (.long q1)]))
  by_cases hc2 : q1 < q2
  · refine OGo.st (fun _ k_ => XT.lcmp X0.here hx rfl (hb hby own_d_jdk_29_method_66_code_2) rfl k_) ?_
    show OGo p.tables e below _ (s₁.setTop (mkF m 3 #[.val (.long q1), .second, .val (.long q2), .second] [(.int (XT.cmpL q1 q2))]))
    refine OGo.st (fun _ k_ => XS.ifYes X0.here hx rfl (pc0 := 3) (pc' := 10) rfl (hb hby own_d_jdk_29_method_66_code_3) rfl (XT.ll_lt_t hc2) (by decide) (by decide) k_) ?_
    show OGo p.tables e below _ (s₁.setTop (mkF m 10 #[.val (.long q1), .second, .val (.long q2), .second] []))
    refine OGo.st (fun _ k_ => XS.lloadN X0.here hx rfl (hb hby own_d_jdk_29_method_66_code_10) rfl k_) ?_
    show OGo p.tables e below _ (s₁.setTop (mkF m 11 #[.val (.long q1), .second, .val (.long q2), .second] [(.long q2)]))
    refine OGo.fin X0 (v := some (.long q2)) (fun h => by rw [Bd.returns] at h; cases h) hlk (fun fs hr => X0.lreturnOut hx Bd.returns (hb hby own_d_jdk_29_method_66_code_11) hr) ?_ (by decide) (by decide)
    show own_Q_rm11 Z q1 q2 h0 n0 _ s₁.heap _
    rw [e0]
    exact ⟨by simp [own_maxJ, hc2], N0, rfl⟩
  · refine OGo.st (fun _ k_ => XT.lcmp X0.here hx rfl (hb hby own_d_jdk_29_method_66_code_2) rfl k_) ?_
    show OGo p.tables e below _ (s₁.setTop (mkF m 3 #[.val (.long q1), .second, .val (.long q2), .second] [(.int (XT.cmpL q1 q2))]))
    refine OGo.st (fun _ k_ => XS.ifNo X0.here hx rfl (hb hby own_d_jdk_29_method_66_code_3) rfl (XT.ll_lt_f hc2) k_) ?_
    show OGo p.tables e below _ (s₁.setTop (mkF m 6 #[.val (.long q1), .second, .val (.long q2), .second] []))
    refine OGo.st (fun _ k_ => XS.lloadN X0.here hx rfl (hb hby own_d_jdk_29_method_66_code_6) rfl k_) ?_
    show OGo p.tables e below _ (s₁.setTop (mkF m 7 #[.val (.long q1), .second, .val (.long q2), .second] [(.long q1)]))
    refine OGo.st (fun _ k_ => XS.goto X0.here hx rfl (pc0 := 7) (pc' := 11) rfl (hb hby own_d_jdk_29_method_66_code_7) (by decide) (by decide) k_) ?_
    show OGo p.tables e below _ (s₁.setTop (mkF m 11 #[.val (.long q1), .second, .val (.long q2), .second] [(.long q1)]))
    refine OGo.fin X0 (v := some (.long q1)) (fun h => by rw [Bd.returns] at h; cases h) hlk (fun fs hr => X0.lreturnOut hx Bd.returns (hb hby own_d_jdk_29_method_66_code_11) hr) ?_ (by decide) (by decide)
    show own_Q_rm11 Z q1 q2 h0 n0 _ s₁.heap _
    rw [e0]
    exact ⟨by simp [own_maxJ, hc2], N0, rfl⟩
theorem own_d_prog_120_method_3_code_0 : decode prog_120_method_3_code 0 = .ok (.aload_n 0, 1) := by decide +kernel
theorem own_d_prog_120_method_3_code_1 : decode prog_120_method_3_code 1 = .ok (.getfield 28, 3) := by decide +kernel
theorem own_d_prog_120_method_3_code_4 : decode prog_120_method_3_code 4 = .ok (.aload_n 0, 1) := by decide +kernel
theorem own_d_prog_120_method_3_code_5 : decode prog_120_method_3_code 5 = .ok (.getfield 24, 3) := by decide +kernel
theorem own_d_prog_120_method_3_code_8 : decode prog_120_method_3_code 8 = .ok (.aload_n 0, 1) := by decide +kernel
theorem own_d_prog_120_method_3_code_9 : decode prog_120_method_3_code 9 = .ok (.getfield 9, 3) := by decide +kernel
theorem own_d_prog_120_method_3_code_12 : decode prog_120_method_3_code 12 = .ok (.arraylength, 1) := by decide +kernel
theorem own_d_prog_120_method_3_code_13 : decode prog_120_method_3_code 13 = .ok (.i2l, 1) := by decide +kernel
theorem own_d_prog_120_method_3_code_14 : decode prog_120_method_3_code 14 = .ok (.invokestatic 34, 3) := by decide +kernel
theorem own_pd5 : parseMethodDescriptor "(JJ)J" = some ⟨[.long, .long], some .long⟩ := by decide +kernel
theorem own_d_prog_120_method_3_code_17 : decode prog_120_method_3_code 17 = .ok (.lcmp, 1) := by decide +kernel
theorem own_d_prog_120_method_3_code_18 : decode prog_120_method_3_code 18 = .ok (.ifCond .ge 5, 3) := by decide +kernel
theorem own_d_prog_120_method_3_code_21 : decode prog_120_method_3_code 21 = .ok (.iconst 0, 1) := by decide +kernel
theorem own_d_prog_120_method_3_code_22 : decode prog_120_method_3_code 22 = .ok (.ireturn, 1) := by decide +kernel
theorem own_d_prog_120_method_3_code_23 : decode prog_120_method_3_code 23 = .ok (.aload_n 0, 1) := by decide +kernel
theorem own_d_prog_120_method_3_code_24 : decode prog_120_method_3_code 24 = .ok (.iconst 5, 1) := by decide +kernel
theorem own_d_prog_120_method_3_code_25 : decode prog_120_method_3_code 25 = .ok (.invokevirtual 40, 3) := by decide +kernel
theorem own_pd6 : parseMethodDescriptor "(I)J" = some ⟨[.int], some .long⟩ := by decide +kernel
theorem own_sel0 (Z : State) (a0 : Array Value) (hw : ∀ d ∈ tables_1, d.before a0 Z = true) : (Jvm.Cond.selects "com/example/locator/locator/cli/WarmUp" (⟨"com/example/locator/locator/cli/WarmUp", "median", "(I)J"⟩ : MethodName) (⟨"com/example/locator/locator/cli/WarmUp", "median", "(I)J"⟩ : MethodName)).before a0 Z = true := own_selfsel (y := (⟨"com/example/locator/locator/cli/WarmUp", "median", "(I)J"⟩ : MethodName)) (y0 := (⟨"com/example/locator/locator/cli/WarmUp", "passed", "(J)V"⟩ : MethodName)) (hw _ (List.mem_of_getElem? (i := 27) rfl)) rfl (hw _ (List.mem_of_getElem? (i := 55) rfl)) (hw _ (List.mem_of_getElem? (i := 56) rfl)) (by decide)
theorem own_d_prog_120_method_3_code_28 : decode prog_120_method_3_code 28 = .ok (.l2d, 1) := by decide +kernel
theorem own_d_prog_120_method_3_code_29 : decode prog_120_method_3_code 29 = .ok (.ldc2_w 44, 3) := by decide +kernel
theorem own_d_prog_120_method_3_code_32 : decode prog_120_method_3_code 32 = .ok (.aload_n 0, 1) := by decide +kernel
theorem own_d_prog_120_method_3_code_33 : decode prog_120_method_3_code 33 = .ok (.bipush 10, 2) := by decide +kernel
theorem own_d_prog_120_method_3_code_35 : decode prog_120_method_3_code 35 = .ok (.invokevirtual 40, 3) := by decide +kernel
theorem own_d_prog_120_method_3_code_38 : decode prog_120_method_3_code 38 = .ok (.l2d, 1) := by decide +kernel
theorem own_d_prog_120_method_3_code_39 : decode prog_120_method_3_code 39 = .ok (.dmul, 1) := by decide +kernel
theorem own_d_prog_120_method_3_code_40 : decode prog_120_method_3_code 40 = .ok (.dcmp .l, 1) := by decide +kernel
theorem own_d_prog_120_method_3_code_41 : decode prog_120_method_3_code 41 = .ok (.ifCond .lt 7, 3) := by decide +kernel
theorem own_d_prog_120_method_3_code_48 : decode prog_120_method_3_code 48 = .ok (.iconst 0, 1) := by decide +kernel
theorem own_d_prog_120_method_3_code_49 : decode prog_120_method_3_code 49 = .ok (.ireturn, 1) := by decide +kernel
theorem own_d_prog_120_method_3_code_44 : decode prog_120_method_3_code 44 = .ok (.iconst 1, 1) := by decide +kernel
theorem own_d_prog_120_method_3_code_45 : decode prog_120_method_3_code 45 = .ok (.goto 4, 3) := by decide +kernel
theorem own_ef_rm12 (m : MethodId) (x0 : Addr) : entryFrame m #[(.ref x0)] 1 = mkF m 0 #[.val (.ref x0)] [] := by first | (simp [entryFrame, mkF, argsToLocals, Value.category]; done) | rfl
def own_Q_rm12 (Z : State) (a1 : Addr) (b1 : Addr) (k1 : ClassId) (w : Nat → Int64) (lo hi nd el : Int64) (h0 : Heap) (n0 : Nat) (v : Option Value) (h : Heap) (L : List Loc) : Prop := v = some (.int (own_stl nd (own_med (own_cnt hi (fun i => w (5 + i))) lo hi) (own_med (own_cnt hi (fun i => w (0 + i))) lo hi))) ∧ Fr n0 L ∧ Keep h0 h []
set_option maxRecDepth 65536 in
set_option maxHeartbeats 40000000 in
theorem rm12 (l : Launch) (Z : State) (a0 : Array Value) (hw : ∀ d ∈ tables_1, d.before a0 Z = true) (ws : List Jvm.Cond) (a1 : Addr) (b1 : Addr) (k1 : ClassId) (w : Nat → Int64) (lo hi nd el : Int64) (h0 : Heap) (n0 : Nat) (Z0 : n0 ≤ h0.size) (E_a1 : Exa Z h0 a1 "com/example/locator/locator/cli/WarmUp") (F_recent_a1 : Fld Z h0 a1 "com/example/locator/locator/cli/WarmUp" "recent" "[J" (.ref b1)) (F_passesNeeded_a1 : Fld Z h0 a1 "com/example/locator/locator/cli/WarmUp" "passesNeeded" "J" (.long nd)) (F_passes_a1 : Fld Z h0 a1 "com/example/locator/locator/cli/WarmUp" "passes" "J" (.long (10 : Int64))) (F_elapsed_a1 : Fld Z h0 a1 "com/example/locator/locator/cli/WarmUp" "elapsed" "J" (.long el)) (A_b1 : Arf Z h0 b1 k1 .long 10 (own_L w)) (hl : ¬ hi < lo) (hv : ∀ i, i < 10 → w i = lo ∨ w i = hi) :
    OMet l Z (⟨"com/example/locator/locator/cli/WarmUp", "settled", "()Z"⟩ : MethodName) prog_120_method_3_code 1 (some .boolean) ws ({ frames := 5, cells := 2, slots := 10, locals := 103 } : Room) #[(.ref a1)] h0 (own_Q_rm12 Z a1 b1 k1 w lo hi nd el h0 n0) := by
  refine MetFree.of_bodySF (plainFor_of_name own_pn0) hisR ?_
  intro p e s m args below meth c s₁ Bd hml0 hP hK
  obtain ⟨rfl, hZ, hh⟩ := hP
  have hx := Bd.exec
  have hby := Bd.bytes
  have hml : c.maxLocals = 1 := hml0
  have hown : s.vm.findClass "com/example/locator/locator/cli/WarmUp" = some m.cls := findClass_of_methodNamed Bd.named
  have hnm := (name_of_methodNamed Bd.named Bd.method).1
  have hlk : meth.locks = false := Bd.notSynchronized
  have X0 : Stand p l e ({ frames := 5, cells := 2, slots := 10, locals := 103 } : Room) s m #[(.ref a1)] below meth c s₁ [] 0 0 := Stand.of_body Bd
  have e0 : s₁.heap = h0 := by rw [← hh, Bd.state]; rfl
  have N0 := Fr.nil n0
  refine OGo.enter (P := OPost s (own_Q_rm12 Z a1 b1 k1 w lo hi nd el h0 n0) 2 10) (own_ef_rm12 m a1) ?_
  show OGo p.tables e below _ (s₁.setTop (mkF m 0 #[.val (.ref a1)] []))
  refine OGo.st (fun _ k_ => XS.aloadN X0.here hx rfl (hb hby own_d_prog_120_method_3_code_0) rfl rfl k_) ?_
  show OGo p.tables e below _ (s₁.setTop (mkF m 1 #[.val (.ref a1)] [(.ref a1)]))
  obtain ⟨T1, X1, ez1, st1⟩ := getF X0 hx hZ hown (host := "") (Or.inl (hw _ (List.mem_of_getElem? (i := 29) rfl))) Via.refl e0 F_passes_a1 (g := (mkF m 1 #[.val (.ref a1)] [(.ref a1)])) rfl rfl (hb hby own_d_prog_120_method_3_code_1)
  refine OGo.st st1 ?_
  show OGo p.tables e below _ (T1.setTop (mkF m 4 #[.val (.ref a1)] [(.long (10 : Int64))]))
  refine OGo.st (fun _ k_ => XS.aloadN X1.here hx rfl (hb hby own_d_prog_120_method_3_code_4) rfl rfl k_) ?_
  show OGo p.tables e below _ (T1.setTop (mkF m 5 #[.val (.ref a1)] [(.ref a1), (.long (10 : Int64))]))
  obtain ⟨T2, X2, ez2, st2⟩ := getF X1 hx hZ hown (host := "") (Or.inl (hw _ (List.mem_of_getElem? (i := 15) rfl))) Via.refl ez1 F_passesNeeded_a1 (g := (mkF m 5 #[.val (.ref a1)] [(.ref a1), (.long (10 : Int64))])) rfl rfl (hb hby own_d_prog_120_method_3_code_5)
  refine OGo.st st2 ?_
  show OGo p.tables e below _ (T2.setTop (mkF m 8 #[.val (.ref a1)] [(.long nd), (.long (10 : Int64))]))
  refine OGo.st (fun _ k_ => XS.aloadN X2.here hx rfl (hb hby own_d_prog_120_method_3_code_8) rfl rfl k_) ?_
  show OGo p.tables e below _ (T2.setTop (mkF m 9 #[.val (.ref a1)] [(.ref a1), (.long nd), (.long (10 : Int64))]))
  obtain ⟨T3, X3, ez3, st3⟩ := getF X2 hx hZ hown (host := "") (Or.inl (hw _ (List.mem_of_getElem? (i := 12) rfl))) Via.refl ez2 F_recent_a1 (g := (mkF m 9 #[.val (.ref a1)] [(.ref a1), (.long nd), (.long (10 : Int64))])) rfl rfl (hb hby own_d_prog_120_method_3_code_9)
  refine OGo.st st3 ?_
  show OGo p.tables e below _ (T3.setTop (mkF m 12 #[.val (.ref a1)] [(.ref b1), (.long nd), (.long (10 : Int64))]))
  have qz4 := own_alen X3 hx hZ ez3 A_b1 (g := (mkF m 12 #[.val (.ref a1)] [(.ref b1), (.long nd), (.long (10 : Int64))])) rfl rfl (hb hby own_d_prog_120_method_3_code_12)
  refine OGo.st qz4 ?_
  show OGo p.tables e below _ (T3.setTop (mkF m 13 #[.val (.ref a1)] [(.int (10 : Int32)), (.long nd), (.long (10 : Int64))]))
  refine OGo.st (fun _ k_ => XS.i2l X3.here hx rfl (hb hby own_d_prog_120_method_3_code_13) rfl k_) ?_
  show OGo p.tables e below _ (T3.setTop (mkF m 14 #[.val (.ref a1)] [(.long (10 : Int32).toInt64), (.long nd), (.long (10 : Int64))]))
  obtain ⟨_, _, ⟨T5, Lz5, kz5, nz5⟩, -, X5, ⟨Lc5, hQ5, lz5, yz5, zz5⟩, st5⟩ := Jvm.LawKit.callS X3 hx (y := (⟨"java/lang/Math", "max", "(JJ)J"⟩ : MethodName)) hown (mvT hZ (hw _ (List.mem_of_getElem? (i := 41) rfl))) (mvT hZ (hw _ (List.mem_of_getElem? (i := 42) rfl))) (mvT hZ (hw _ (List.mem_of_getElem? (i := 43) rfl))) (mvT hZ (hw _ (List.mem_of_getElem? (i := 44) rfl))) (by decide) (backOf (W := 2) (rm11 l Z a0 hw [] nd (10 : Int32).toInt64 h0 n0 (Nat.le_trans Z0 (Keep.refl h0 []).1) ) hZ (hw _ (List.mem_of_getElem? (i := 44) rfl)) (hw _ (List.mem_of_getElem? (i := 43) rfl)) (by decide) (by decide)) (g := (mkF m 14 #[.val (.ref a1)] [(.long (10 : Int32).toInt64), (.long nd), (.long (10 : Int64))])) rfl (by rw [hml]; rfl) (argsL := [(.long nd), (.long (10 : Int32).toInt64)]) (rest := [(.long (10 : Int64))]) (lenOf own_pd5 rfl) rfl (by show 2 * 0 + _ ≤ _; exact Nat.le_of_eq rfl) (hb hby own_d_prog_120_method_3_code_14) (fun _ _ => ⟨rfl, ez3, (by decide : 0 + 0 ≤ _), (by decide : 0 + 0 ≤ _)⟩)
  dsimp only [Pt.U, Pt.locs, Pt.cells, Pt.slots] at X5 lz5 yz5 zz5 st5 hQ5
  have X5 := own_reb X5 lz5 yz5 zz5
  have X5 : Stand p l e ({ frames := 5, cells := 2, slots := 10, locals := 103 } : Room) s m #[(.ref a1)] below meth c T5 _ 0 0 := X5
  obtain ⟨hvq5, Nq5, ez5⟩ := hQ5
  rw [hvq5] at st5
  have N5 := Fr.app N0 Nq5
  refine OGo.st st5 ?_
  show OGo p.tables e below _ (T5.setTop (mkF m 17 #[.val (.ref a1)] [(.long (own_maxJ nd (10 : Int32).toInt64)), (.long (10 : Int64))]))
  by_cases hc17 : (10 : Int64) < (own_maxJ nd (10 : Int32).toInt64)
  · refine OGo.st (fun _ k_ => XT.lcmp X5.here hx rfl (hb hby own_d_prog_120_method_3_code_17) rfl k_) ?_
    show OGo p.tables e below _ (T5.setTop (mkF m 18 #[.val (.ref a1)] [(.int (XT.cmpL (10 : Int64) (own_maxJ nd (10 : Int32).toInt64)))]))
    refine OGo.st (fun _ k_ => XS.ifNo X5.here hx rfl (hb hby own_d_prog_120_method_3_code_18) rfl (XT.ll_ge_f hc17) k_) ?_
    show OGo p.tables e below _ (T5.setTop (mkF m 21 #[.val (.ref a1)] []))
    refine OGo.st (fun _ k_ => XS.iconst X5.here hx rfl (hb hby own_d_prog_120_method_3_code_21) k_) ?_
    show OGo p.tables e below _ (T5.setTop (mkF m 22 #[.val (.ref a1)] [(.int (0 : Int32))]))
    refine OGo.fin X5 (v := some (.int (0 : Int32))) (fun h => by rw [Bd.returns] at h; cases h) hlk (fun fs hr => X5.ireturnOut hx Bd.returns rfl (by simp) (hb hby own_d_prog_120_method_3_code_22) hr) ?_ (by decide) (by decide)
    show own_Q_rm12 Z a1 b1 k1 w lo hi nd el h0 n0 _ T5.heap _
    rw [ez5]
    exact ⟨congrArg (fun z => some (Value.int z)) (own_stl_no hc17).symm, N5, (Keep.refl h0 [])⟩
  · refine OGo.st (fun _ k_ => XT.lcmp X5.here hx rfl (hb hby own_d_prog_120_method_3_code_17) rfl k_) ?_
    show OGo p.tables e below _ (T5.setTop (mkF m 18 #[.val (.ref a1)] [(.int (XT.cmpL (10 : Int64) (own_maxJ nd (10 : Int32).toInt64)))]))
    refine OGo.st (fun _ k_ => XS.ifYes X5.here hx rfl (pc0 := 18) (pc' := 23) rfl (hb hby own_d_prog_120_method_3_code_18) rfl (XT.ll_ge_t hc17) (by decide) (by decide) k_) ?_
    show OGo p.tables e below _ (T5.setTop (mkF m 23 #[.val (.ref a1)] []))
    refine OGo.st (fun _ k_ => XS.aloadN X5.here hx rfl (hb hby own_d_prog_120_method_3_code_23) rfl rfl k_) ?_
    show OGo p.tables e below _ (T5.setTop (mkF m 24 #[.val (.ref a1)] [(.ref a1)]))
    refine OGo.st (fun _ k_ => XS.iconst X5.here hx rfl (hb hby own_d_prog_120_method_3_code_24) k_) ?_
    show OGo p.tables e below _ (T5.setTop (mkF m 25 #[.val (.ref a1)] [(.int (5 : Int32)), (.ref a1)]))
    obtain ⟨cq6, qz6, qz6b⟩ := E_a1.cell
    obtain ⟨_, _, ⟨T6, Lz6, kz6, nz6⟩, -, X6, ⟨Lc6, hQ6, lz6, yz6, zz6⟩, st6⟩ := X5.privateBack hx (y := (⟨"com/example/locator/locator/cli/WarmUp", "median", "(I)J"⟩ : MethodName)) hown (mvT hZ (hw _ (List.mem_of_getElem? (i := 54) rfl))) (mvT hZ (hw _ (List.mem_of_getElem? (i := 55) rfl))) (mvT hZ (own_sel0 Z a0 hw)) (Cond.privateMethod_at (mvP hZ (hw _ (List.mem_of_getElem? (i := 56) rfl)) (args := #[]))) (mvT hZ (hw _ (List.mem_of_getElem? (i := 57) rfl))) (by decide) (backOf (W := 0) (rm9 l Z a0 hw [] a1 b1 k1 w lo hi h0 n0 (Nat.le_trans Z0 (Keep.refl h0 []).1) F_recent_a1 F_passes_a1 A_b1 hl hv) hZ (hw _ (List.mem_of_getElem? (i := 57) rfl)) (hw _ (List.mem_of_getElem? (i := 4) rfl)) (by decide) (by decide)) (g := (mkF m 25 #[.val (.ref a1)] [(.int (5 : Int32)), (.ref a1)])) rfl (by rw [hml]; rfl) (Steps.refl _) (a := a1) (by rw [ez5]; exact qz6) qz6b (argsL := [(.int (5 : Int32))]) (rest := []) (lenOf own_pd6 rfl) rfl (by show 2 * 0 + _ ≤ _; exact Nat.le_of_eq rfl) (hb hby own_d_prog_120_method_3_code_25) (fun _ _ => ⟨rfl, ez5, (by decide : 0 + 1 ≤ _), (by decide : 0 + 5 ≤ _)⟩)
    dsimp only [Pt.U, Pt.locs, Pt.cells, Pt.slots] at X6 lz6 yz6 zz6 st6 hQ6
    have X6 := own_reb X6 lz6 yz6 zz6
    have X6 : Stand p l e ({ frames := 5, cells := 2, slots := 10, locals := 103 } : Room) s m #[(.ref a1)] below meth c T6 _ 1 5 := X6
    obtain ⟨hvq6, Nq6, Kq6⟩ := hQ6
    rw [hvq6] at st6
    have N6 := Fr.app N5 Nq6
    have Ex_7 := E_a1.keep Kq6
    have F_8 := F_recent_a1.keep Kq6 nin0
    have F_9 := F_passesNeeded_a1.keep Kq6 nin0
    have F_10 := F_passes_a1.keep Kq6 nin0
    have F_11 := F_elapsed_a1.keep Kq6 nin0
    have Af_12 := A_b1.keep Kq6 nin0
    have K_13 : Keep h0 T6.heap [] := (Keep.refl h0 []).trans Kq6 all0
    refine OGo.tr st6 ?_
    show OGo p.tables e below _ (T6.setTop (mkF m 28 #[.val (.ref a1)] [(.long (own_med (own_cnt hi (fun i => w (5 + i))) lo hi))]))
    refine OGo.st (fun _ k_ => XS.l2dS X6.here hx rfl (hb hby own_d_prog_120_method_3_code_28) rfl rfl k_) ?_
    show OGo p.tables e below _ (T6.setTop (mkF m 29 #[.val (.ref a1)] [(.double (FP.l2d (own_med (own_cnt hi (fun i => w (5 + i))) lo hi)))]))
    have qz14 := own_ldcD X6 hx hZ hown (b := (4606281698874543309 : UInt64)) (hw _ (List.mem_of_getElem? (i := 72) rfl)) (g := (mkF m 29 #[.val (.ref a1)] [(.double (FP.l2d (own_med (own_cnt hi (fun i => w (5 + i))) lo hi)))])) rfl (hb hby own_d_prog_120_method_3_code_29)
    refine OGo.st qz14 ?_
    show OGo p.tables e below _ (T6.setTop (mkF m 32 #[.val (.ref a1)] [(.double (4606281698874543309 : UInt64)), (.double (FP.l2d (own_med (own_cnt hi (fun i => w (5 + i))) lo hi)))]))
    refine OGo.st (fun _ k_ => XS.aloadN X6.here hx rfl (hb hby own_d_prog_120_method_3_code_32) rfl rfl k_) ?_
    show OGo p.tables e below _ (T6.setTop (mkF m 33 #[.val (.ref a1)] [(.ref a1), (.double (4606281698874543309 : UInt64)), (.double (FP.l2d (own_med (own_cnt hi (fun i => w (5 + i))) lo hi)))]))
    refine OGo.st (fun _ k_ => XS.bipush X6.here hx rfl (hb hby own_d_prog_120_method_3_code_33) k_) ?_
    show OGo p.tables e below _ (T6.setTop (mkF m 35 #[.val (.ref a1)] [(.int (10 : Int32)), (.ref a1), (.double (4606281698874543309 : UInt64)), (.double (FP.l2d (own_med (own_cnt hi (fun i => w (5 + i))) lo hi)))]))
    obtain ⟨cq15, qz15, qz15b⟩ := Ex_7.cell
    obtain ⟨_, _, ⟨T15, Lz15, kz15, nz15⟩, -, X15, ⟨Lc15, hQ15, lz15, yz15, zz15⟩, st15⟩ := X6.privateBack hx (y := (⟨"com/example/locator/locator/cli/WarmUp", "median", "(I)J"⟩ : MethodName)) hown (mvT hZ (hw _ (List.mem_of_getElem? (i := 54) rfl))) (mvT hZ (hw _ (List.mem_of_getElem? (i := 55) rfl))) (mvT hZ (own_sel0 Z a0 hw)) (Cond.privateMethod_at (mvP hZ (hw _ (List.mem_of_getElem? (i := 56) rfl)) (args := #[]))) (mvT hZ (hw _ (List.mem_of_getElem? (i := 57) rfl))) (by decide) (backOf (W := 4) (rm10 l Z a0 hw [] a1 b1 k1 w lo hi T6.heap n0 (Nat.le_trans Z0 K_13.1) F_8 F_10 Af_12 hl hv) hZ (hw _ (List.mem_of_getElem? (i := 57) rfl)) (hw _ (List.mem_of_getElem? (i := 4) rfl)) (by decide) (by decide)) (g := (mkF m 35 #[.val (.ref a1)] [(.int (10 : Int32)), (.ref a1), (.double (4606281698874543309 : UInt64)), (.double (FP.l2d (own_med (own_cnt hi (fun i => w (5 + i))) lo hi)))])) rfl (by rw [hml]; rfl) (Steps.refl _) (a := a1) qz15 qz15b (argsL := [(.int (10 : Int32))]) (rest := [(.double (4606281698874543309 : UInt64)), (.double (FP.l2d (own_med (own_cnt hi (fun i => w (5 + i))) lo hi)))]) (lenOf own_pd6 rfl) rfl (by show 2 * 0 + _ ≤ _; exact Nat.le_of_eq rfl) (hb hby own_d_prog_120_method_3_code_35) (fun _ _ => ⟨rfl, rfl, (by decide : 1 + 1 ≤ _), (by decide : 5 + 5 ≤ _)⟩)
    dsimp only [Pt.U, Pt.locs, Pt.cells, Pt.slots] at X15 lz15 yz15 zz15 st15 hQ15
    have X15 := own_reb X15 lz15 yz15 zz15
    have X15 : Stand p l e ({ frames := 5, cells := 2, slots := 10, locals := 103 } : Room) s m #[(.ref a1)] below meth c T15 _ 2 10 := X15
    obtain ⟨hvq15, Nq15, Kq15⟩ := hQ15
    rw [hvq15] at st15
    have N15 := Fr.app N6 Nq15
    have Ex_16 := Ex_7.keep Kq15
    have F_17 := F_8.keep Kq15 nin0
    have F_18 := F_9.keep Kq15 nin0
    have F_19 := F_10.keep Kq15 nin0
    have F_20 := F_11.keep Kq15 nin0
    have Af_21 := Af_12.keep Kq15 nin0
    have K_22 : Keep h0 T15.heap [] := K_13.trans Kq15 all0
    refine OGo.tr st15 ?_
    show OGo p.tables e below _ (T15.setTop (mkF m 38 #[.val (.ref a1)] [(.long (own_med (own_cnt hi (fun i => w (0 + i))) lo hi)), (.double (4606281698874543309 : UInt64)), (.double (FP.l2d (own_med (own_cnt hi (fun i => w (5 + i))) lo hi)))]))
    refine OGo.st (fun _ k_ => XS.l2dS X15.here hx rfl (hb hby own_d_prog_120_method_3_code_38) rfl rfl k_) ?_
    show OGo p.tables e below _ (T15.setTop (mkF m 39 #[.val (.ref a1)] [(.double (FP.l2d (own_med (own_cnt hi (fun i => w (0 + i))) lo hi))), (.double (4606281698874543309 : UInt64)), (.double (FP.l2d (own_med (own_cnt hi (fun i => w (5 + i))) lo hi)))]))
    refine OGo.st (fun _ k_ => XS.dmulS X15.here hx rfl (hb hby own_d_prog_120_method_3_code_39) rfl (own_nn _) rfl k_) ?_
    show OGo p.tables e below _ (T15.setTop (mkF m 40 #[.val (.ref a1)] [(.double (FP.dmul (4606281698874543309 : UInt64) (FP.l2d (own_med (own_cnt hi (fun i => w (0 + i))) lo hi)))), (.double (FP.l2d (own_med (own_cnt hi (fun i => w (5 + i))) lo hi)))]))
    refine OGo.st (fun _ k_ => XS.dcmpS X15.here hx rfl (hb hby own_d_prog_120_method_3_code_40) rfl rfl k_) ?_
    show OGo p.tables e below _ (T15.setTop (mkF m 41 #[.val (.ref a1)] [(.int (cmpValue (FP.dcmp (FP.l2d (own_med (own_cnt hi (fun i => w (5 + i))) lo hi)) (FP.dmul (4606281698874543309 : UInt64) (FP.l2d (own_med (own_cnt hi (fun i => w (0 + i))) lo hi)))) .l))]))
    by_cases hc41 : (cmpValue (FP.dcmp (FP.l2d (own_med (own_cnt hi (fun i => w (5 + i))) lo hi)) (FP.dmul (4606281698874543309 : UInt64) (FP.l2d (own_med (own_cnt hi (fun i => w (0 + i))) lo hi)))) .l) < 0
    · refine OGo.st (fun _ k_ => XS.ifYes X15.here hx rfl (pc0 := 41) (pc' := 48) rfl (hb hby own_d_prog_120_method_3_code_41) rfl (XT.i0_lt_t hc41) (by decide) (by decide) k_) ?_
      show OGo p.tables e below _ (T15.setTop (mkF m 48 #[.val (.ref a1)] []))
      refine OGo.st (fun _ k_ => XS.iconst X15.here hx rfl (hb hby own_d_prog_120_method_3_code_48) k_) ?_
      show OGo p.tables e below _ (T15.setTop (mkF m 49 #[.val (.ref a1)] [(.int (0 : Int32))]))
      refine OGo.fin X15 (v := some (.int (0 : Int32))) (fun h => by rw [Bd.returns] at h; cases h) hlk (fun fs hr => X15.ireturnOut hx Bd.returns rfl (by simp) (hb hby own_d_prog_120_method_3_code_49) hr) ?_ (by decide) (by decide)
      show own_Q_rm12 Z a1 b1 k1 w lo hi nd el h0 n0 _ T15.heap _
      skip
      exact ⟨congrArg (fun z => some (Value.int z)) (own_stl_lt hc17 hc41).symm, N15, K_22⟩
    · refine OGo.st (fun _ k_ => XS.ifNo X15.here hx rfl (hb hby own_d_prog_120_method_3_code_41) rfl (XT.i0_lt_f hc41) k_) ?_
      show OGo p.tables e below _ (T15.setTop (mkF m 44 #[.val (.ref a1)] []))
      refine OGo.st (fun _ k_ => XS.iconst X15.here hx rfl (hb hby own_d_prog_120_method_3_code_44) k_) ?_
      show OGo p.tables e below _ (T15.setTop (mkF m 45 #[.val (.ref a1)] [(.int (1 : Int32))]))
      refine OGo.st (fun _ k_ => XS.goto X15.here hx rfl (pc0 := 45) (pc' := 49) rfl (hb hby own_d_prog_120_method_3_code_45) (by decide) (by decide) k_) ?_
      show OGo p.tables e below _ (T15.setTop (mkF m 49 #[.val (.ref a1)] [(.int (1 : Int32))]))
      refine OGo.fin X15 (v := some (.int (1 : Int32))) (fun h => by rw [Bd.returns] at h; cases h) hlk (fun fs hr => X15.ireturnOut hx Bd.returns rfl (by simp) (hb hby own_d_prog_120_method_3_code_49) hr) ?_ (by decide) (by decide)
      show own_Q_rm12 Z a1 b1 k1 w lo hi nd el h0 n0 _ T15.heap _
      skip
      exact ⟨congrArg (fun z => some (Value.int z)) (own_stl_ge hc17 hc41).symm, N15, K_22⟩
theorem own_d_prog_120_method_4_code_0 : decode prog_120_method_4_code 0 = .ok (.aload_n 0, 1) := by decide +kernel
theorem own_d_prog_120_method_4_code_1 : decode prog_120_method_4_code 1 = .ok (.invokevirtual 46, 3) := by decide +kernel
theorem own_pd7 : parseMethodDescriptor "()Z" = some ⟨[], some .boolean⟩ := by decide +kernel
theorem own_d_prog_120_method_4_code_4 : decode prog_120_method_4_code 4 = .ok (.ifCond .ne 14, 3) := by decide +kernel
theorem own_d_prog_120_method_4_code_7 : decode prog_120_method_4_code 7 = .ok (.aload_n 0, 1) := by decide +kernel
theorem own_d_prog_120_method_4_code_8 : decode prog_120_method_4_code 8 = .ok (.getfield 31, 3) := by decide +kernel
theorem own_d_prog_120_method_4_code_11 : decode prog_120_method_4_code 11 = .ok (.getstatic 50, 3) := by decide +kernel
theorem own_d_prog_120_method_4_code_14 : decode prog_120_method_4_code 14 = .ok (.lcmp, 1) := by decide +kernel
theorem own_d_prog_120_method_4_code_15 : decode prog_120_method_4_code 15 = .ok (.ifCond .lt 7, 3) := by decide +kernel
theorem own_d_prog_120_method_4_code_22 : decode prog_120_method_4_code 22 = .ok (.iconst 0, 1) := by decide +kernel
theorem own_d_prog_120_method_4_code_23 : decode prog_120_method_4_code 23 = .ok (.ireturn, 1) := by decide +kernel
theorem own_d_prog_120_method_4_code_18 : decode prog_120_method_4_code 18 = .ok (.iconst 1, 1) := by decide +kernel
theorem own_d_prog_120_method_4_code_19 : decode prog_120_method_4_code 19 = .ok (.goto 4, 3) := by decide +kernel
theorem own_ef_rm13 (m : MethodId) (x0 : Addr) : entryFrame m #[(.ref x0)] 1 = mkF m 0 #[.val (.ref x0)] [] := by first | (simp [entryFrame, mkF, argsToLocals, Value.category]; done) | rfl
def own_Q_rm13 (Z : State) (a1 : Addr) (b1 : Addr) (k1 : ClassId) (w : Nat → Int64) (lo hi nd el : Int64) (h0 : Heap) (n0 : Nat) (v : Option Value) (h : Heap) (L : List Loc) : Prop := v = some (.int (own_dn (own_stl nd (own_med (own_cnt hi (fun i => w (5 + i))) lo hi) (own_med (own_cnt hi (fun i => w (0 + i))) lo hi)) el)) ∧ Fr n0 L ∧ Keep h0 h []
set_option maxRecDepth 65536 in
set_option maxHeartbeats 40000000 in
theorem rm13 (l : Launch) (Z : State) (a0 : Array Value) (hw : ∀ d ∈ tables_1, d.before a0 Z = true) (ws : List Jvm.Cond) (a1 : Addr) (b1 : Addr) (k1 : ClassId) (w : Nat → Int64) (lo hi nd el : Int64) (h0 : Heap) (n0 : Nat) (Z0 : n0 ≤ h0.size) (E_a1 : Exa Z h0 a1 "com/example/locator/locator/cli/WarmUp") (F_recent_a1 : Fld Z h0 a1 "com/example/locator/locator/cli/WarmUp" "recent" "[J" (.ref b1)) (F_passesNeeded_a1 : Fld Z h0 a1 "com/example/locator/locator/cli/WarmUp" "passesNeeded" "J" (.long nd)) (F_passes_a1 : Fld Z h0 a1 "com/example/locator/locator/cli/WarmUp" "passes" "J" (.long (10 : Int64))) (F_elapsed_a1 : Fld Z h0 a1 "com/example/locator/locator/cli/WarmUp" "elapsed" "J" (.long el)) (A_b1 : Arf Z h0 b1 k1 .long 10 (own_L w)) (hl : ¬ hi < lo) (hv : ∀ i, i < 10 → w i = lo ∨ w i = hi) (S_LIMIT_NANOS : Sta Z h0 "com/example/locator/locator/cli/WarmUp" "LIMIT_NANOS" "J" (.long (120000000000 : Int64))) :
    OMet l Z (⟨"com/example/locator/locator/cli/WarmUp", "done", "()Z"⟩ : MethodName) prog_120_method_4_code 1 (some .boolean) ws ({ frames := 6, cells := 2, slots := 10, locals := 115 } : Room) #[(.ref a1)] h0 (own_Q_rm13 Z a1 b1 k1 w lo hi nd el h0 n0) := by
  refine MetFree.of_bodySF (plainFor_of_name own_pn0) hisR ?_
  intro p e s m args below meth c s₁ Bd hml0 hP hK
  obtain ⟨rfl, hZ, hh⟩ := hP
  have hx := Bd.exec
  have hby := Bd.bytes
  have hml : c.maxLocals = 1 := hml0
  have hown : s.vm.findClass "com/example/locator/locator/cli/WarmUp" = some m.cls := findClass_of_methodNamed Bd.named
  have hnm := (name_of_methodNamed Bd.named Bd.method).1
  have hlk : meth.locks = false := Bd.notSynchronized
  have X0 : Stand p l e ({ frames := 6, cells := 2, slots := 10, locals := 115 } : Room) s m #[(.ref a1)] below meth c s₁ [] 0 0 := Stand.of_body Bd
  have e0 : s₁.heap = h0 := by rw [← hh, Bd.state]; rfl
  have N0 := Fr.nil n0
  refine OGo.enter (P := OPost s (own_Q_rm13 Z a1 b1 k1 w lo hi nd el h0 n0) 2 10) (own_ef_rm13 m a1) ?_
  show OGo p.tables e below _ (s₁.setTop (mkF m 0 #[.val (.ref a1)] []))
  refine OGo.st (fun _ k_ => XS.aloadN X0.here hx rfl (hb hby own_d_prog_120_method_4_code_0) rfl rfl k_) ?_
  show OGo p.tables e below _ (s₁.setTop (mkF m 1 #[.val (.ref a1)] [(.ref a1)]))
  obtain ⟨cq1, kqz1, qz1a, qz1b, qz1c⟩ := isOf hZ e0 E_a1
  obtain ⟨_, _, ⟨T1, Lz1, kz1, nz1⟩, -, X1, ⟨Lc1, hQ1, lz1, yz1, zz1⟩, st1⟩ := X0.virtualBack hx (y := (⟨"com/example/locator/locator/cli/WarmUp", "settled", "()Z"⟩ : MethodName)) (z := (⟨"com/example/locator/locator/cli/WarmUp", "settled", "()Z"⟩ : MethodName)) hown (mvT hZ (hw _ (List.mem_of_getElem? (i := 50) rfl))) (mvT hZ (hw _ (List.mem_of_getElem? (i := 37) rfl))) (notFace_of_selects (args := #[]) (mvT hZ (hw _ (List.mem_of_getElem? (i := 39) rfl)))) (mvT hZ (hw _ (List.mem_of_getElem? (i := 39) rfl))) (mvT hZ (hw _ (List.mem_of_getElem? (i := 38) rfl))) (by decide) (backOf (W := 0) (rm12 l Z a0 hw [] a1 b1 k1 w lo hi nd el h0 n0 (Nat.le_trans Z0 (Keep.refl h0 []).1) E_a1 F_recent_a1 F_passesNeeded_a1 F_passes_a1 F_elapsed_a1 A_b1 hl hv) hZ (hw _ (List.mem_of_getElem? (i := 40) rfl)) (hw _ (List.mem_of_getElem? (i := 4) rfl)) (by decide) (by decide)) qz1a qz1c (g := (mkF m 1 #[.val (.ref a1)] [(.ref a1)])) rfl (by rw [hml]; rfl) (Steps.refl _) (argsL := []) (rest := []) (lenOf own_pd7 rfl) rfl (by show 2 * 0 + _ ≤ _; exact Nat.le_of_eq rfl) (hb hby own_d_prog_120_method_4_code_1) (fun _ _ => ⟨rfl, e0, (by decide : 0 + 2 ≤ _), (by decide : 0 + 10 ≤ _)⟩)
  dsimp only [Pt.U, Pt.locs, Pt.cells, Pt.slots] at X1 lz1 yz1 zz1 st1 hQ1
  have X1 := own_reb X1 lz1 yz1 zz1
  have X1 : Stand p l e ({ frames := 6, cells := 2, slots := 10, locals := 115 } : Room) s m #[(.ref a1)] below meth c T1 _ 2 10 := X1
  obtain ⟨hvq1, Nq1, Kq1⟩ := hQ1
  rw [hvq1] at st1
  have N1 := Fr.app N0 Nq1
  have Ex_2 := E_a1.keep Kq1
  have F_3 := F_recent_a1.keep Kq1 nin0
  have F_4 := F_passesNeeded_a1.keep Kq1 nin0
  have F_5 := F_passes_a1.keep Kq1 nin0
  have F_6 := F_elapsed_a1.keep Kq1 nin0
  have Af_7 := A_b1.keep Kq1 nin0
  have K_8 : Keep h0 T1.heap [] := (Keep.refl h0 []).trans Kq1 all0
  refine OGo.tr st1 ?_
  show OGo p.tables e below _ (T1.setTop (mkF m 4 #[.val (.ref a1)] [(.int (own_stl nd (own_med (own_cnt hi (fun i => w (5 + i))) lo hi) (own_med (own_cnt hi (fun i => w (0 + i))) lo hi)))]))
  by_cases hc4 : (own_stl nd (own_med (own_cnt hi (fun i => w (5 + i))) lo hi) (own_med (own_cnt hi (fun i => w (0 + i))) lo hi)) = 0
  · refine OGo.st (fun _ k_ => XS.ifNo X1.here hx rfl (hb hby own_d_prog_120_method_4_code_4) rfl (XT.i0_ne_f hc4) k_) ?_
    show OGo p.tables e below _ (T1.setTop (mkF m 7 #[.val (.ref a1)] []))
    refine OGo.st (fun _ k_ => XS.aloadN X1.here hx rfl (hb hby own_d_prog_120_method_4_code_7) rfl rfl k_) ?_
    show OGo p.tables e below _ (T1.setTop (mkF m 8 #[.val (.ref a1)] [(.ref a1)]))
    obtain ⟨T9, X9, ez9, st9⟩ := getF X1 hx hZ hown (host := "") (Or.inl (hw _ (List.mem_of_getElem? (i := 31) rfl))) Via.refl rfl F_6 (g := (mkF m 8 #[.val (.ref a1)] [(.ref a1)])) rfl rfl (hb hby own_d_prog_120_method_4_code_8)
    refine OGo.st st9 ?_
    show OGo p.tables e below _ (T9.setTop (mkF m 11 #[.val (.ref a1)] [(.long el)]))
    obtain ⟨T10, X10, ez10, st10⟩ := getS X9 hx hZ hown (host := "") (hw _ (List.mem_of_getElem? (i := 51) rfl)) Via.refl ez9 (own_sta_keep S_LIMIT_NANOS K_8) (g := (mkF m 11 #[.val (.ref a1)] [(.long el)])) rfl (hb hby own_d_prog_120_method_4_code_11)
    refine OGo.st st10 ?_
    show OGo p.tables e below _ (T10.setTop (mkF m 14 #[.val (.ref a1)] [(.long (120000000000 : Int64)), (.long el)]))
    by_cases hc14 : el < (120000000000 : Int64)
    · refine OGo.st (fun _ k_ => XT.lcmp X10.here hx rfl (hb hby own_d_prog_120_method_4_code_14) rfl k_) ?_
      show OGo p.tables e below _ (T10.setTop (mkF m 15 #[.val (.ref a1)] [(.int (XT.cmpL el (120000000000 : Int64)))]))
      refine OGo.st (fun _ k_ => XS.ifYes X10.here hx rfl (pc0 := 15) (pc' := 22) rfl (hb hby own_d_prog_120_method_4_code_15) rfl (XT.ll_lt_t hc14) (by decide) (by decide) k_) ?_
      show OGo p.tables e below _ (T10.setTop (mkF m 22 #[.val (.ref a1)] []))
      refine OGo.st (fun _ k_ => XS.iconst X10.here hx rfl (hb hby own_d_prog_120_method_4_code_22) k_) ?_
      show OGo p.tables e below _ (T10.setTop (mkF m 23 #[.val (.ref a1)] [(.int (0 : Int32))]))
      refine OGo.fin X10 (v := some (.int (0 : Int32))) (fun h => by rw [Bd.returns] at h; cases h) hlk (fun fs hr => X10.ireturnOut hx Bd.returns rfl (by simp) (hb hby own_d_prog_120_method_4_code_23) hr) ?_ (by decide) (by decide)
      show own_Q_rm13 Z a1 b1 k1 w lo hi nd el h0 n0 _ T10.heap _
      rw [ez10]
      exact ⟨congrArg (fun z => some (Value.int z)) (own_dn_a hc4 hc14).symm, N1, K_8⟩
    · refine OGo.st (fun _ k_ => XT.lcmp X10.here hx rfl (hb hby own_d_prog_120_method_4_code_14) rfl k_) ?_
      show OGo p.tables e below _ (T10.setTop (mkF m 15 #[.val (.ref a1)] [(.int (XT.cmpL el (120000000000 : Int64)))]))
      refine OGo.st (fun _ k_ => XS.ifNo X10.here hx rfl (hb hby own_d_prog_120_method_4_code_15) rfl (XT.ll_lt_f hc14) k_) ?_
      show OGo p.tables e below _ (T10.setTop (mkF m 18 #[.val (.ref a1)] []))
      refine OGo.st (fun _ k_ => XS.iconst X10.here hx rfl (hb hby own_d_prog_120_method_4_code_18) k_) ?_
      show OGo p.tables e below _ (T10.setTop (mkF m 19 #[.val (.ref a1)] [(.int (1 : Int32))]))
      refine OGo.st (fun _ k_ => XS.goto X10.here hx rfl (pc0 := 19) (pc' := 23) rfl (hb hby own_d_prog_120_method_4_code_19) (by decide) (by decide) k_) ?_
      show OGo p.tables e below _ (T10.setTop (mkF m 23 #[.val (.ref a1)] [(.int (1 : Int32))]))
      refine OGo.fin X10 (v := some (.int (1 : Int32))) (fun h => by rw [Bd.returns] at h; cases h) hlk (fun fs hr => X10.ireturnOut hx Bd.returns rfl (by simp) (hb hby own_d_prog_120_method_4_code_23) hr) ?_ (by decide) (by decide)
      show own_Q_rm13 Z a1 b1 k1 w lo hi nd el h0 n0 _ T10.heap _
      rw [ez10]
      exact ⟨congrArg (fun z => some (Value.int z)) (own_dn_b hc4 hc14).symm, N1, K_8⟩
  · refine OGo.st (fun _ k_ => XS.ifYes X1.here hx rfl (pc0 := 4) (pc' := 18) rfl (hb hby own_d_prog_120_method_4_code_4) rfl (XT.i0_ne_t hc4) (by decide) (by decide) k_) ?_
    show OGo p.tables e below _ (T1.setTop (mkF m 18 #[.val (.ref a1)] []))
    refine OGo.st (fun _ k_ => XS.iconst X1.here hx rfl (hb hby own_d_prog_120_method_4_code_18) k_) ?_
    show OGo p.tables e below _ (T1.setTop (mkF m 19 #[.val (.ref a1)] [(.int (1 : Int32))]))
    refine OGo.st (fun _ k_ => XS.goto X1.here hx rfl (pc0 := 19) (pc' := 23) rfl (hb hby own_d_prog_120_method_4_code_19) (by decide) (by decide) k_) ?_
    show OGo p.tables e below _ (T1.setTop (mkF m 23 #[.val (.ref a1)] [(.int (1 : Int32))]))
    refine OGo.fin X1 (v := some (.int (1 : Int32))) (fun h => by rw [Bd.returns] at h; cases h) hlk (fun fs hr => X1.ireturnOut hx Bd.returns rfl (by simp) (hb hby own_d_prog_120_method_4_code_23) hr) ?_ (by decide) (by decide)
    show own_Q_rm13 Z a1 b1 k1 w lo hi nd el h0 n0 _ T1.heap _
    skip
    exact ⟨congrArg (fun z => some (Value.int z)) (own_dn_c hc4).symm, N1, K_8⟩
theorem own_pd8 : parseMethodDescriptor "(I)V" = some ⟨[.int], none⟩ := by decide +kernel
theorem own_pd9 : parseMethodDescriptor "(IIJJ)J" = some ⟨[.int, .int, .long, .long], some .long⟩ := by decide +kernel
theorem own_pd10 : parseMethodDescriptor "(J)V" = some ⟨[.long], none⟩ := by decide +kernel
theorem own_ef_rm0 (m : MethodId) (x0 : Int64) (x1 : Int64) (x2 : Int32) (x3 : Int32) : entryFrame m #[(.long x0), (.long x1), (.int x2), (.int x3)] maxLocals = mkF m 0 #[.val (.long x0), .second, .val (.long x1), .second, .val (.int x2), .val (.int x3), .unset, .unset, .unset, .unset, .unset, .unset, .unset, .unset, .unset, .unset, .unset, .unset, .unset, .unset, .unset, .unset, .unset, .unset, .unset] [] := by first | (simp [entryFrame, mkF, argsToLocals, Value.category, maxLocals]; done) | rfl
def own_Q_rm0 (Z : State) (q1 q2 : Int64) (p3 p4 : Int32) (h0 : Heap) (n0 : Nat) (v : Option Value) (h : Heap) (L : List Loc) : Prop := v = some (.int 1) ∧ Fr n0 L
set_option maxRecDepth 65536 in
set_option maxHeartbeats 40000000 in
theorem rm0 (l : Launch) (Z : State) (a0 : Array Value) (hw : ∀ d ∈ tables_1, d.before a0 Z = true) (ws : List Jvm.Cond) (q1 q2 : Int64) (p3 p4 : Int32) (h0 : Heap) (n0 : Nat) (Z0 : n0 ≤ h0.size) (S_LIMIT_NANOS : Sta Z h0 "com/example/locator/locator/cli/WarmUp" "LIMIT_NANOS" "J" (.long (120000000000 : Int64))) :
    OMet l Z x code maxLocals ret ws room_1 #[(.long q1), (.long q2), (.int p3), (.int p4)] h0 (own_Q_rm0 Z q1 q2 p3 p4 h0 n0) := by
  refine MetFree.of_bodySF (plainFor_of_name own_pn1) hisR ?_
  intro p e s m args below meth c s₁ Bd hml0 hP hK
  obtain ⟨rfl, hZ, hh⟩ := hP
  have hx := Bd.exec
  have hby := Bd.bytes
  have hml : c.maxLocals = 25 := hml0
  have hown : s.vm.findClass "com/example/locator/locator/cli/WarmUpPassedPinLaw" = some m.cls := findClass_of_methodNamed Bd.named
  have hnm := (name_of_methodNamed Bd.named Bd.method).1
  have hlk : meth.locks = false := Bd.notSynchronized
  have X0 : Stand p l e room_1 s m #[(.long q1), (.long q2), (.int p3), (.int p4)] below meth c s₁ [] 0 0 := Stand.of_body Bd
  have e0 : s₁.heap = h0 := by rw [← hh, Bd.state]; rfl
  have N0 := Fr.nil n0
  refine OGo.enter (P := OPost s (own_Q_rm0 Z q1 q2 p3 p4 h0 n0) room_1.cells room_1.slots) (own_ef_rm0 m q1 q2 p3 p4) ?_
  show OGo p.tables e below _ (s₁.setTop (mkF m 0 #[.val (.long q1), .second, .val (.long q2), .second, .val (.int p3), .val (.int p4), .unset, .unset, .unset, .unset, .unset, .unset, .unset, .unset, .unset, .unset, .unset, .unset, .unset, .unset, .unset, .unset, .unset, .unset, .unset] []))
  refine OGo.st (fun _ k_ => XS.lloadN X0.here hx rfl (hb hby at_0) rfl k_) ?_
  show OGo p.tables e below _ (s₁.setTop (mkF m 1 #[.val (.long q1), .second, .val (.long q2), .second, .val (.int p3), .val (.int p4), .unset, .unset, .unset, .unset, .unset, .unset, .unset, .unset, .unset, .unset, .unset, .unset, .unset, .unset, .unset, .unset, .unset, .unset, .unset] [(.long q1)]))
  refine OGo.st (fun _ k_ => X0.ldc2J hx hown (mvT hZ (hw _ (List.mem_of_getElem? (i := 0) rfl))) rfl (hb hby at_1) k_) ?_
  show OGo p.tables e below _ (s₁.setTop (mkF m 4 #[.val (.long q1), .second, .val (.long q2), .second, .val (.int p3), .val (.int p4), .unset, .unset, .unset, .unset, .unset, .unset, .unset, .unset, .unset, .unset, .unset, .unset, .unset, .unset, .unset, .unset, .unset, .unset, .unset] [(.long (9223372036854775807 : Int64)), (.long q1)]))
  refine OGo.st (fun _ k_ => XS.land X0.here hx rfl (hb hby at_4) rfl k_) ?_
  show OGo p.tables e below _ (s₁.setTop (mkF m 5 #[.val (.long q1), .second, .val (.long q2), .second, .val (.int p3), .val (.int p4), .unset, .unset, .unset, .unset, .unset, .unset, .unset, .unset, .unset, .unset, .unset, .unset, .unset, .unset, .unset, .unset, .unset, .unset, .unset] [(.long (q1 &&& (9223372036854775807 : Int64)))]))
  refine OGo.st (fun _ k_ => X0.ldc2J hx hown (mvT hZ (hw _ (List.mem_of_getElem? (i := 1) rfl))) rfl (hb hby at_5) k_) ?_
  show OGo p.tables e below _ (s₁.setTop (mkF m 8 #[.val (.long q1), .second, .val (.long q2), .second, .val (.int p3), .val (.int p4), .unset, .unset, .unset, .unset, .unset, .unset, .unset, .unset, .unset, .unset, .unset, .unset, .unset, .unset, .unset, .unset, .unset, .unset, .unset] [(.long (30000000000 : Int64)), (.long (q1 &&& (9223372036854775807 : Int64)))]))
  refine OGo.st (fun _ k_ => XS.lrem X0.here hx rfl (hb hby at_8) rfl (by decide) k_) ?_
  show OGo p.tables e below _ (s₁.setTop (mkF m 9 #[.val (.long q1), .second, .val (.long q2), .second, .val (.int p3), .val (.int p4), .unset, .unset, .unset, .unset, .unset, .unset, .unset, .unset, .unset, .unset, .unset, .unset, .unset, .unset, .unset, .unset, .unset, .unset, .unset] [(.long ((q1 &&& (9223372036854775807 : Int64)) - ((q1 &&& (9223372036854775807 : Int64)) / (30000000000 : Int64)) * (30000000000 : Int64)))]))
  obtain ⟨lo, hlo⟩ : ∃ z : Int64, z = ((q1 &&& (9223372036854775807 : Int64)) - ((q1 &&& (9223372036854775807 : Int64)) / (30000000000 : Int64)) * (30000000000 : Int64)) := ⟨_, rfl⟩
  rw [← hlo]
  show OGo p.tables e below _ (s₁.setTop (mkF m 9 #[.val (.long q1), .second, .val (.long q2), .second, .val (.int p3), .val (.int p4), .unset, .unset, .unset, .unset, .unset, .unset, .unset, .unset, .unset, .unset, .unset, .unset, .unset, .unset, .unset, .unset, .unset, .unset, .unset] [(.long lo)]))
  refine OGo.st (fun _ k_ => XS.lstore X0.here hx rfl (hb hby at_9) rfl (l' := #[.val (.long q1), .second, .val (.long q2), .second, .val (.int p3), .val (.int p4), .val (.long lo), .second, .unset, .unset, .unset, .unset, .unset, .unset, .unset, .unset, .unset, .unset, .unset, .unset, .unset, .unset, .unset, .unset, .unset]) rfl k_) ?_
  show OGo p.tables e below _ (s₁.setTop (mkF m 11 #[.val (.long q1), .second, .val (.long q2), .second, .val (.int p3), .val (.int p4), .val (.long lo), .second, .unset, .unset, .unset, .unset, .unset, .unset, .unset, .unset, .unset, .unset, .unset, .unset, .unset, .unset, .unset, .unset, .unset] []))
  refine OGo.st (fun _ k_ => XS.lload X0.here hx rfl (hb hby at_11) rfl k_) ?_
  show OGo p.tables e below _ (s₁.setTop (mkF m 13 #[.val (.long q1), .second, .val (.long q2), .second, .val (.int p3), .val (.int p4), .val (.long lo), .second, .unset, .unset, .unset, .unset, .unset, .unset, .unset, .unset, .unset, .unset, .unset, .unset, .unset, .unset, .unset, .unset, .unset] [(.long lo)]))
  refine OGo.st (fun _ k_ => XS.lloadN X0.here hx rfl (hb hby at_13) rfl k_) ?_
  show OGo p.tables e below _ (s₁.setTop (mkF m 14 #[.val (.long q1), .second, .val (.long q2), .second, .val (.int p3), .val (.int p4), .val (.long lo), .second, .unset, .unset, .unset, .unset, .unset, .unset, .unset, .unset, .unset, .unset, .unset, .unset, .unset, .unset, .unset, .unset, .unset] [(.long q2), (.long lo)]))
  refine OGo.st (fun _ k_ => X0.ldc2J hx hown (mvT hZ (hw _ (List.mem_of_getElem? (i := 0) rfl))) rfl (hb hby at_14) k_) ?_
  show OGo p.tables e below _ (s₁.setTop (mkF m 17 #[.val (.long q1), .second, .val (.long q2), .second, .val (.int p3), .val (.int p4), .val (.long lo), .second, .unset, .unset, .unset, .unset, .unset, .unset, .unset, .unset, .unset, .unset, .unset, .unset, .unset, .unset, .unset, .unset, .unset] [(.long (9223372036854775807 : Int64)), (.long q2), (.long lo)]))
  refine OGo.st (fun _ k_ => XS.land X0.here hx rfl (hb hby at_17) rfl k_) ?_
  show OGo p.tables e below _ (s₁.setTop (mkF m 18 #[.val (.long q1), .second, .val (.long q2), .second, .val (.int p3), .val (.int p4), .val (.long lo), .second, .unset, .unset, .unset, .unset, .unset, .unset, .unset, .unset, .unset, .unset, .unset, .unset, .unset, .unset, .unset, .unset, .unset] [(.long (q2 &&& (9223372036854775807 : Int64))), (.long lo)]))
  refine OGo.st (fun _ k_ => X0.ldc2J hx hown (mvT hZ (hw _ (List.mem_of_getElem? (i := 1) rfl))) rfl (hb hby at_18) k_) ?_
  show OGo p.tables e below _ (s₁.setTop (mkF m 21 #[.val (.long q1), .second, .val (.long q2), .second, .val (.int p3), .val (.int p4), .val (.long lo), .second, .unset, .unset, .unset, .unset, .unset, .unset, .unset, .unset, .unset, .unset, .unset, .unset, .unset, .unset, .unset, .unset, .unset] [(.long (30000000000 : Int64)), (.long (q2 &&& (9223372036854775807 : Int64))), (.long lo)]))
  refine OGo.st (fun _ k_ => XS.lrem X0.here hx rfl (hb hby at_21) rfl (by decide) k_) ?_
  show OGo p.tables e below _ (s₁.setTop (mkF m 22 #[.val (.long q1), .second, .val (.long q2), .second, .val (.int p3), .val (.int p4), .val (.long lo), .second, .unset, .unset, .unset, .unset, .unset, .unset, .unset, .unset, .unset, .unset, .unset, .unset, .unset, .unset, .unset, .unset, .unset] [(.long ((q2 &&& (9223372036854775807 : Int64)) - ((q2 &&& (9223372036854775807 : Int64)) / (30000000000 : Int64)) * (30000000000 : Int64))), (.long lo)]))
  refine OGo.st (fun _ k_ => XS.ladd X0.here hx rfl (hb hby at_22) rfl k_) ?_
  show OGo p.tables e below _ (s₁.setTop (mkF m 23 #[.val (.long q1), .second, .val (.long q2), .second, .val (.int p3), .val (.int p4), .val (.long lo), .second, .unset, .unset, .unset, .unset, .unset, .unset, .unset, .unset, .unset, .unset, .unset, .unset, .unset, .unset, .unset, .unset, .unset] [(.long (lo + ((q2 &&& (9223372036854775807 : Int64)) - ((q2 &&& (9223372036854775807 : Int64)) / (30000000000 : Int64)) * (30000000000 : Int64))))]))
  obtain ⟨hi, hhi⟩ : ∃ z : Int64, z = (lo + ((q2 &&& (9223372036854775807 : Int64)) - ((q2 &&& (9223372036854775807 : Int64)) / (30000000000 : Int64)) * (30000000000 : Int64))) := ⟨_, rfl⟩
  rw [← hhi]
  show OGo p.tables e below _ (s₁.setTop (mkF m 23 #[.val (.long q1), .second, .val (.long q2), .second, .val (.int p3), .val (.int p4), .val (.long lo), .second, .unset, .unset, .unset, .unset, .unset, .unset, .unset, .unset, .unset, .unset, .unset, .unset, .unset, .unset, .unset, .unset, .unset] [(.long hi)]))
  refine OGo.st (fun _ k_ => XS.lstore X0.here hx rfl (hb hby at_23) rfl (l' := #[.val (.long q1), .second, .val (.long q2), .second, .val (.int p3), .val (.int p4), .val (.long lo), .second, .val (.long hi), .second, .unset, .unset, .unset, .unset, .unset, .unset, .unset, .unset, .unset, .unset, .unset, .unset, .unset, .unset, .unset]) rfl k_) ?_
  show OGo p.tables e below _ (s₁.setTop (mkF m 25 #[.val (.long q1), .second, .val (.long q2), .second, .val (.int p3), .val (.int p4), .val (.long lo), .second, .val (.long hi), .second, .unset, .unset, .unset, .unset, .unset, .unset, .unset, .unset, .unset, .unset, .unset, .unset, .unset, .unset, .unset] []))
  refine OGo.st (fun _ k_ => XS.iconst X0.here hx rfl (hb hby at_25) k_) ?_
  show OGo p.tables e below _ (s₁.setTop (mkF m 26 #[.val (.long q1), .second, .val (.long q2), .second, .val (.int p3), .val (.int p4), .val (.long lo), .second, .val (.long hi), .second, .unset, .unset, .unset, .unset, .unset, .unset, .unset, .unset, .unset, .unset, .unset, .unset, .unset, .unset, .unset] [(.int (1 : Int32))]))
  refine OGo.st (fun _ k_ => XS.iload X0.here hx rfl (hb hby at_26) rfl k_) ?_
  show OGo p.tables e below _ (s₁.setTop (mkF m 28 #[.val (.long q1), .second, .val (.long q2), .second, .val (.int p3), .val (.int p4), .val (.long lo), .second, .val (.long hi), .second, .unset, .unset, .unset, .unset, .unset, .unset, .unset, .unset, .unset, .unset, .unset, .unset, .unset, .unset, .unset] [(.int p4), (.int (1 : Int32))]))
  refine OGo.st (fun _ k_ => XS.sipush X0.here hx rfl (hb hby at_28) k_) ?_
  show OGo p.tables e below _ (s₁.setTop (mkF m 31 #[.val (.long q1), .second, .val (.long q2), .second, .val (.int p3), .val (.int p4), .val (.long lo), .second, .val (.long hi), .second, .unset, .unset, .unset, .unset, .unset, .unset, .unset, .unset, .unset, .unset, .unset, .unset, .unset, .unset, .unset] [(.int (16383 : Int32)), (.int p4), (.int (1 : Int32))]))
  refine OGo.st (fun _ k_ => XS.iand X0.here hx rfl (hb hby at_31) rfl k_) ?_
  show OGo p.tables e below _ (s₁.setTop (mkF m 32 #[.val (.long q1), .second, .val (.long q2), .second, .val (.int p3), .val (.int p4), .val (.long lo), .second, .val (.long hi), .second, .unset, .unset, .unset, .unset, .unset, .unset, .unset, .unset, .unset, .unset, .unset, .unset, .unset, .unset, .unset] [(.int (p4 &&& (16383 : Int32))), (.int (1 : Int32))]))
  refine OGo.st (fun _ k_ => XS.iadd X0.here hx rfl (hb hby at_32) rfl k_) ?_
  show OGo p.tables e below _ (s₁.setTop (mkF m 33 #[.val (.long q1), .second, .val (.long q2), .second, .val (.int p3), .val (.int p4), .val (.long lo), .second, .val (.long hi), .second, .unset, .unset, .unset, .unset, .unset, .unset, .unset, .unset, .unset, .unset, .unset, .unset, .unset, .unset, .unset] [(.int ((1 : Int32) + (p4 &&& (16383 : Int32))))]))
  obtain ⟨sr, hsr⟩ : ∃ z : Int32, z = ((1 : Int32) + (p4 &&& (16383 : Int32))) := ⟨_, rfl⟩
  rw [← hsr]
  have hlo_ := own_low hlo
  have hhi_ := own_high hlo_ hhi
  have hsr_ := own_srch hsr
  show OGo p.tables e below _ (s₁.setTop (mkF m 33 #[.val (.long q1), .second, .val (.long q2), .second, .val (.int p3), .val (.int p4), .val (.long lo), .second, .val (.long hi), .second, .unset, .unset, .unset, .unset, .unset, .unset, .unset, .unset, .unset, .unset, .unset, .unset, .unset, .unset, .unset] [(.int sr)]))
  refine OGo.st (fun _ k_ => XS.istore X0.here hx rfl (hb hby at_33) rfl (l' := #[.val (.long q1), .second, .val (.long q2), .second, .val (.int p3), .val (.int p4), .val (.long lo), .second, .val (.long hi), .second, .val (.int sr), .unset, .unset, .unset, .unset, .unset, .unset, .unset, .unset, .unset, .unset, .unset, .unset, .unset, .unset]) rfl k_) ?_
  show OGo p.tables e below _ (s₁.setTop (mkF m 35 #[.val (.long q1), .second, .val (.long q2), .second, .val (.int p3), .val (.int p4), .val (.long lo), .second, .val (.long hi), .second, .val (.int sr), .unset, .unset, .unset, .unset, .unset, .unset, .unset, .unset, .unset, .unset, .unset, .unset, .unset, .unset] []))
  obtain ⟨T1, hz1, X1, ez1, Ez1, Az1, Dz1, -, st1⟩ := newO X0 hx hZ hown (hw _ (List.mem_of_getElem? (i := 2) rfl)) (hw _ (List.mem_of_getElem? (i := 3) rfl)) (hw _ (List.mem_of_getElem? (i := 4) rfl)) e0 (g := (mkF m 35 #[.val (.long q1), .second, .val (.long q2), .second, .val (.int p3), .val (.int p4), .val (.long lo), .second, .val (.long hi), .second, .val (.int sr), .unset, .unset, .unset, .unset, .unset, .unset, .unset, .unset, .unset, .unset, .unset, .unset, .unset, .unset] [])) rfl (hb hby at_35) (by decide) (by decide)
  obtain ⟨bz1, g1⟩ : ∃ z, z = h0.size := ⟨_, rfl⟩
  rw [← g1] at Az1 Dz1 st1
  have g_bz1 : n0 ≤ bz1 := Nat.le_trans (Nat.le_trans Z0 (Keep.refl h0 []).1) (Nat.le_of_eq g1.symm)
  have sz_bz1 : h0.size ≤ bz1 := Nat.le_trans (Keep.refl h0 []).1 (Nat.le_of_eq g1.symm)
  have K_2 : Keep h0 hz1 [] := (Keep.refl h0 []).ext Ez1
  have F_recent_1 : Fld Z hz1 bz1 "com/example/locator/locator/cli/WarmUp" "recent" "[J" .null := Dz1 (Or.inr (hw _ (List.mem_of_getElem? (i := 13) rfl))) (ty := (.array .long)) (by decide)
  have F_passesNeeded_1 : Fld Z hz1 bz1 "com/example/locator/locator/cli/WarmUp" "passesNeeded" "J" (.long (0 : Int64)) := Dz1 (Or.inr (hw _ (List.mem_of_getElem? (i := 16) rfl))) (ty := .long) (by decide)
  have F_passes_1 : Fld Z hz1 bz1 "com/example/locator/locator/cli/WarmUp" "passes" "J" (.long (0 : Int64)) := Dz1 (Or.inl (hw _ (List.mem_of_getElem? (i := 30) rfl))) (ty := .long) (by decide)
  have F_elapsed_1 : Fld Z hz1 bz1 "com/example/locator/locator/cli/WarmUp" "elapsed" "J" (.long (0 : Int64)) := Dz1 (Or.inl (hw _ (List.mem_of_getElem? (i := 32) rfl))) (ty := .long) (by decide)
  refine OGo.st st1 ?_
  show OGo p.tables e below _ (T1.setTop (mkF m 38 #[.val (.long q1), .second, .val (.long q2), .second, .val (.int p3), .val (.int p4), .val (.long lo), .second, .val (.long hi), .second, .val (.int sr), .unset, .unset, .unset, .unset, .unset, .unset, .unset, .unset, .unset, .unset, .unset, .unset, .unset, .unset] [(.ref bz1)]))
  refine OGo.st (fun _ k_ => XS.dup X1.here hx rfl (hb hby at_38) rfl rfl k_) ?_
  show OGo p.tables e below _ (T1.setTop (mkF m 39 #[.val (.long q1), .second, .val (.long q2), .second, .val (.int p3), .val (.int p4), .val (.long lo), .second, .val (.long hi), .second, .val (.int sr), .unset, .unset, .unset, .unset, .unset, .unset, .unset, .unset, .unset, .unset, .unset, .unset, .unset, .unset] [(.ref bz1), (.ref bz1)]))
  refine OGo.st (fun _ k_ => XS.iload X1.here hx rfl (hb hby at_39) rfl k_) ?_
  show OGo p.tables e below _ (T1.setTop (mkF m 41 #[.val (.long q1), .second, .val (.long q2), .second, .val (.int p3), .val (.int p4), .val (.long lo), .second, .val (.long hi), .second, .val (.int sr), .unset, .unset, .unset, .unset, .unset, .unset, .unset, .unset, .unset, .unset, .unset, .unset, .unset, .unset] [(.int sr), (.ref bz1), (.ref bz1)]))
  obtain ⟨_, _, ⟨T3, Lz3, kz3, nz3⟩, -, X3, ⟨Lc3, hQ3, lz3, yz3, zz3⟩, st3⟩ := X1.specialBack hx (y := (⟨"com/example/locator/locator/cli/WarmUp", "<init>", "(I)V"⟩ : MethodName)) rfl hown (mvT hZ (hw _ (List.mem_of_getElem? (i := 5) rfl))) (mvT hZ (hw _ (List.mem_of_getElem? (i := 6) rfl))) (mvT hZ (hw _ (List.mem_of_getElem? (i := 7) rfl))) (by decide) (backOf (W := 1) (rm1 l Z a0 hw [] bz1 sr hz1 n0 (Nat.le_trans Z0 K_2.1) Az1 F_recent_1 F_passesNeeded_1 F_passes_1 F_elapsed_1 g_bz1 hsr_.1 hsr_.2) hZ (hw _ (List.mem_of_getElem? (i := 7) rfl)) (hw _ (List.mem_of_getElem? (i := 4) rfl)) (by decide) (by decide)) (g := (mkF m 41 #[.val (.long q1), .second, .val (.long q2), .second, .val (.int p3), .val (.int p4), .val (.long lo), .second, .val (.long hi), .second, .val (.int sr), .unset, .unset, .unset, .unset, .unset, .unset, .unset, .unset, .unset, .unset, .unset, .unset, .unset, .unset] [(.int sr), (.ref bz1), (.ref bz1)])) rfl (by rw [hml]; rfl) (Steps.refl _) (a := bz1) (argsL := [(.int sr)]) (rest := [(.ref bz1)]) (lenOf own_pd8 rfl) rfl (by show 2 * 0 + _ ≤ _; exact Nat.le_of_eq rfl) (hb hby at_41) (fun _ _ => ⟨rfl, ez1, (by decide : 1 + 1 ≤ _), (by decide : 4 + 10 ≤ _)⟩)
  dsimp only [Pt.U, Pt.locs, Pt.cells, Pt.slots] at X3 lz3 yz3 zz3 st3 hQ3
  have X3 := own_reb X3 lz3 yz3 zz3
  have X3 : Stand p l e room_1 s m #[(.long q1), (.long q2), (.int p3), (.int p4)] below meth c T3 _ 2 14 := X3
  obtain ⟨hvq3, Nq3, Kq3, rc3, kq3, szq3, f1_3, f2_3, f3_3, f4_3, A3q⟩ := hQ3
  rw [hvq3] at st3
  have N3 := Fr.app N0 Nq3
  have ne_bz1_rc3 : bz1 ≠ rc3 := Nat.ne_of_lt (Nat.lt_of_lt_of_le Az1.lt szq3)
  have g_rc3 : n0 ≤ rc3 := Nat.le_trans (Nat.le_trans Z0 K_2.1) szq3
  have sz_rc3 : h0.size ≤ rc3 := Nat.le_trans K_2.1 szq3
  have Ex_4 := Az1.keep Kq3
  have K_5 : Keep h0 T3.heap [] := K_2.trans Kq3 (allS (Or.inr sz_bz1) all0)
  refine OGo.tr st3 ?_
  show OGo p.tables e below _ (T3.setTop (mkF m 44 #[.val (.long q1), .second, .val (.long q2), .second, .val (.int p3), .val (.int p4), .val (.long lo), .second, .val (.long hi), .second, .val (.int sr), .unset, .unset, .unset, .unset, .unset, .unset, .unset, .unset, .unset, .unset, .unset, .unset, .unset, .unset] [(.ref bz1)]))
  refine OGo.st (fun _ k_ => XS.astore X3.here hx rfl (hb hby at_44) rfl rfl (l' := #[.val (.long q1), .second, .val (.long q2), .second, .val (.int p3), .val (.int p4), .val (.long lo), .second, .val (.long hi), .second, .val (.int sr), .val (.ref bz1), .unset, .unset, .unset, .unset, .unset, .unset, .unset, .unset, .unset, .unset, .unset, .unset, .unset]) rfl k_) ?_
  show OGo p.tables e below _ (T3.setTop (mkF m 46 #[.val (.long q1), .second, .val (.long q2), .second, .val (.int p3), .val (.int p4), .val (.long lo), .second, .val (.long hi), .second, .val (.int sr), .val (.ref bz1), .unset, .unset, .unset, .unset, .unset, .unset, .unset, .unset, .unset, .unset, .unset, .unset, .unset] []))
  refine OGo.st (fun _ k_ => XS.aload X3.here hx rfl (hb hby at_46) rfl rfl k_) ?_
  show OGo p.tables e below _ (T3.setTop (mkF m 48 #[.val (.long q1), .second, .val (.long q2), .second, .val (.int p3), .val (.int p4), .val (.long lo), .second, .val (.long hi), .second, .val (.int sr), .val (.ref bz1), .unset, .unset, .unset, .unset, .unset, .unset, .unset, .unset, .unset, .unset, .unset, .unset, .unset] [(.ref bz1)]))
  refine OGo.st (fun _ k_ => XS.iload X3.here hx rfl (hb hby at_48) rfl k_) ?_
  show OGo p.tables e below _ (T3.setTop (mkF m 50 #[.val (.long q1), .second, .val (.long q2), .second, .val (.int p3), .val (.int p4), .val (.long lo), .second, .val (.long hi), .second, .val (.int sr), .val (.ref bz1), .unset, .unset, .unset, .unset, .unset, .unset, .unset, .unset, .unset, .unset, .unset, .unset, .unset] [(.int p3), (.ref bz1)]))
  refine OGo.st (fun _ k_ => XS.iconst X3.here hx rfl (hb hby at_50) k_) ?_
  show OGo p.tables e below _ (T3.setTop (mkF m 51 #[.val (.long q1), .second, .val (.long q2), .second, .val (.int p3), .val (.int p4), .val (.long lo), .second, .val (.long hi), .second, .val (.int sr), .val (.ref bz1), .unset, .unset, .unset, .unset, .unset, .unset, .unset, .unset, .unset, .unset, .unset, .unset, .unset] [(.int (0 : Int32)), (.int p3), (.ref bz1)]))
  refine OGo.st (fun _ k_ => XS.lload X3.here hx rfl (hb hby at_51) rfl k_) ?_
  show OGo p.tables e below _ (T3.setTop (mkF m 53 #[.val (.long q1), .second, .val (.long q2), .second, .val (.int p3), .val (.int p4), .val (.long lo), .second, .val (.long hi), .second, .val (.int sr), .val (.ref bz1), .unset, .unset, .unset, .unset, .unset, .unset, .unset, .unset, .unset, .unset, .unset, .unset, .unset] [(.long lo), (.int (0 : Int32)), (.int p3), (.ref bz1)]))
  refine OGo.st (fun _ k_ => XS.lload X3.here hx rfl (hb hby at_53) rfl k_) ?_
  show OGo p.tables e below _ (T3.setTop (mkF m 55 #[.val (.long q1), .second, .val (.long q2), .second, .val (.int p3), .val (.int p4), .val (.long lo), .second, .val (.long hi), .second, .val (.int sr), .val (.ref bz1), .unset, .unset, .unset, .unset, .unset, .unset, .unset, .unset, .unset, .unset, .unset, .unset, .unset] [(.long hi), (.long lo), (.int (0 : Int32)), (.int p3), (.ref bz1)]))
  obtain ⟨_, _, ⟨T6, Lz6, kz6, nz6⟩, -, X6, ⟨Lc6, hQ6, lz6, yz6, zz6⟩, st6⟩ := Jvm.LawKit.callS X3 hx (y := (⟨"com/example/locator/locator/cli/WarmUpPassedPinLaw", "pick", "(IIJJ)J"⟩ : MethodName)) hown (mvT hZ (hw _ (List.mem_of_getElem? (i := 17) rfl))) (mvT hZ (hw _ (List.mem_of_getElem? (i := 18) rfl))) (mvT hZ (hw _ (List.mem_of_getElem? (i := 19) rfl))) (mvT hZ (hw _ (List.mem_of_getElem? (i := 20) rfl))) (by decide) (backOf (W := 1) (rm3 l Z a0 hw [] p3 (0 : Int32) lo hi T3.heap n0 (Nat.le_trans Z0 K_5.1) ) hZ (hw _ (List.mem_of_getElem? (i := 20) rfl)) (hw _ (List.mem_of_getElem? (i := 19) rfl)) (by decide) (by decide)) (g := (mkF m 55 #[.val (.long q1), .second, .val (.long q2), .second, .val (.int p3), .val (.int p4), .val (.long lo), .second, .val (.long hi), .second, .val (.int sr), .val (.ref bz1), .unset, .unset, .unset, .unset, .unset, .unset, .unset, .unset, .unset, .unset, .unset, .unset, .unset] [(.long hi), (.long lo), (.int (0 : Int32)), (.int p3), (.ref bz1)])) rfl (by rw [hml]; rfl) (argsL := [(.int p3), (.int (0 : Int32)), (.long lo), (.long hi)]) (rest := [(.ref bz1)]) (lenOf own_pd9 rfl) rfl (by show 2 * 0 + _ ≤ _; exact Nat.le_of_eq rfl) (hb hby at_55) (fun _ _ => ⟨rfl, rfl, (by decide : 2 + 0 ≤ _), (by decide : 14 + 0 ≤ _)⟩)
  dsimp only [Pt.U, Pt.locs, Pt.cells, Pt.slots] at X6 lz6 yz6 zz6 st6 hQ6
  have X6 := own_reb X6 lz6 yz6 zz6
  have X6 : Stand p l e room_1 s m #[(.long q1), (.long q2), (.int p3), (.int p4)] below meth c T6 _ 2 14 := X6
  obtain ⟨hvq6, Nq6, ez6⟩ := hQ6
  rw [hvq6] at st6
  have N6 := Fr.app N3 Nq6
  refine OGo.st st6 ?_
  show OGo p.tables e below _ (T6.setTop (mkF m 58 #[.val (.long q1), .second, .val (.long q2), .second, .val (.int p3), .val (.int p4), .val (.long lo), .second, .val (.long hi), .second, .val (.int sr), .val (.ref bz1), .unset, .unset, .unset, .unset, .unset, .unset, .unset, .unset, .unset, .unset, .unset, .unset, .unset] [(.long (own_pick p3 (0 : Int32) lo hi)), (.ref bz1)]))
  obtain ⟨cq7, kqz7, qz7a, qz7b, qz7c⟩ := isOf hZ ez6 Ex_4
  obtain ⟨_, _, ⟨T7, Lz7, kz7, nz7⟩, -, X7, ⟨Lc7, hQ7, lz7, yz7, zz7⟩, st7⟩ := X6.virtualBack hx (y := (⟨"com/example/locator/locator/cli/WarmUp", "passed", "(J)V"⟩ : MethodName)) (z := (⟨"com/example/locator/locator/cli/WarmUp", "passed", "(J)V"⟩ : MethodName)) hown (mvT hZ (hw _ (List.mem_of_getElem? (i := 24) rfl))) (mvT hZ (hw _ (List.mem_of_getElem? (i := 25) rfl))) (notFace_of_selects (args := #[]) (mvT hZ (hw _ (List.mem_of_getElem? (i := 27) rfl)))) (mvT hZ (hw _ (List.mem_of_getElem? (i := 27) rfl))) (mvT hZ (hw _ (List.mem_of_getElem? (i := 26) rfl))) (by decide) (backOf (W := 0) (rm4 l Z a0 hw [] bz1 (own_pick p3 (0 : Int32) lo hi) rc3 kq3 (fun _ => 0) (0 : Int64) (1 : Int64) (0 : Int64) 0 (own_need sr) T3.heap n0 (Nat.le_trans Z0 K_5.1) Ex_4 f1_3 f2_3 f3_3 f4_3 g_bz1 A3q g_rc3 ne_bz1_rc3 (by decide) (by decide) (by decide)) hZ (hw _ (List.mem_of_getElem? (i := 28) rfl)) (hw _ (List.mem_of_getElem? (i := 4) rfl)) (by decide) (by decide)) qz7a qz7c (g := (mkF m 58 #[.val (.long q1), .second, .val (.long q2), .second, .val (.int p3), .val (.int p4), .val (.long lo), .second, .val (.long hi), .second, .val (.int sr), .val (.ref bz1), .unset, .unset, .unset, .unset, .unset, .unset, .unset, .unset, .unset, .unset, .unset, .unset, .unset] [(.long (own_pick p3 (0 : Int32) lo hi)), (.ref bz1)])) rfl (by rw [hml]; rfl) (Steps.refl _) (argsL := [(.long (own_pick p3 (0 : Int32) lo hi))]) (rest := []) (lenOf own_pd10 rfl) rfl (by show 2 * 0 + _ ≤ _; exact Nat.le_of_eq rfl) (hb hby at_58) (fun _ _ => ⟨rfl, ez6, (by decide : 2 + 0 ≤ _), (by decide : 14 + 0 ≤ _)⟩)
  dsimp only [Pt.U, Pt.locs, Pt.cells, Pt.slots] at X7 lz7 yz7 zz7 st7 hQ7
  have X7 := own_reb X7 lz7 yz7 zz7
  have X7 : Stand p l e room_1 s m #[(.long q1), (.long q2), (.int p3), (.int p4)] below meth c T7 _ 2 14 := X7
  obtain ⟨hvq7, Nq7, Kq7, f1_7, f2_7, f3_7, f4_7, A7q⟩ := hQ7
  rw [hvq7] at st7
  have N7 := Fr.app N6 Nq7
  have Ex_8 := Ex_4.keep Kq7
  have K_9 : Keep h0 T7.heap [] := K_5.trans Kq7 (allS (Or.inr sz_bz1) (allS (Or.inr sz_rc3) all0))
  obtain ⟨ww0, hww0⟩ : ∃ z, z = own_setw (fun _ => 0) 0 (own_pick p3 (0 : Int32) lo hi) := ⟨_, rfl⟩
  rw [← hww0] at A7q
  obtain ⟨ee0, hee0⟩ : ∃ z, z = ((0 : Int64) + (own_pick p3 (0 : Int32) lo hi)) := ⟨_, rfl⟩
  rw [← hee0] at f4_7
  refine OGo.tr st7 ?_
  show OGo p.tables e below _ (T7.setTop (mkF m 61 #[.val (.long q1), .second, .val (.long q2), .second, .val (.int p3), .val (.int p4), .val (.long lo), .second, .val (.long hi), .second, .val (.int sr), .val (.ref bz1), .unset, .unset, .unset, .unset, .unset, .unset, .unset, .unset, .unset, .unset, .unset, .unset, .unset] []))
  refine OGo.st (fun _ k_ => XS.aload X7.here hx rfl (hb hby at_61) rfl rfl k_) ?_
  show OGo p.tables e below _ (T7.setTop (mkF m 63 #[.val (.long q1), .second, .val (.long q2), .second, .val (.int p3), .val (.int p4), .val (.long lo), .second, .val (.long hi), .second, .val (.int sr), .val (.ref bz1), .unset, .unset, .unset, .unset, .unset, .unset, .unset, .unset, .unset, .unset, .unset, .unset, .unset] [(.ref bz1)]))
  refine OGo.st (fun _ k_ => XS.iload X7.here hx rfl (hb hby at_63) rfl k_) ?_
  show OGo p.tables e below _ (T7.setTop (mkF m 65 #[.val (.long q1), .second, .val (.long q2), .second, .val (.int p3), .val (.int p4), .val (.long lo), .second, .val (.long hi), .second, .val (.int sr), .val (.ref bz1), .unset, .unset, .unset, .unset, .unset, .unset, .unset, .unset, .unset, .unset, .unset, .unset, .unset] [(.int p3), (.ref bz1)]))
  refine OGo.st (fun _ k_ => XS.iconst X7.here hx rfl (hb hby at_65) k_) ?_
  show OGo p.tables e below _ (T7.setTop (mkF m 66 #[.val (.long q1), .second, .val (.long q2), .second, .val (.int p3), .val (.int p4), .val (.long lo), .second, .val (.long hi), .second, .val (.int sr), .val (.ref bz1), .unset, .unset, .unset, .unset, .unset, .unset, .unset, .unset, .unset, .unset, .unset, .unset, .unset] [(.int (1 : Int32)), (.int p3), (.ref bz1)]))
  refine OGo.st (fun _ k_ => XS.lload X7.here hx rfl (hb hby at_66) rfl k_) ?_
  show OGo p.tables e below _ (T7.setTop (mkF m 68 #[.val (.long q1), .second, .val (.long q2), .second, .val (.int p3), .val (.int p4), .val (.long lo), .second, .val (.long hi), .second, .val (.int sr), .val (.ref bz1), .unset, .unset, .unset, .unset, .unset, .unset, .unset, .unset, .unset, .unset, .unset, .unset, .unset] [(.long lo), (.int (1 : Int32)), (.int p3), (.ref bz1)]))
  refine OGo.st (fun _ k_ => XS.lload X7.here hx rfl (hb hby at_68) rfl k_) ?_
  show OGo p.tables e below _ (T7.setTop (mkF m 70 #[.val (.long q1), .second, .val (.long q2), .second, .val (.int p3), .val (.int p4), .val (.long lo), .second, .val (.long hi), .second, .val (.int sr), .val (.ref bz1), .unset, .unset, .unset, .unset, .unset, .unset, .unset, .unset, .unset, .unset, .unset, .unset, .unset] [(.long hi), (.long lo), (.int (1 : Int32)), (.int p3), (.ref bz1)]))
  obtain ⟨_, _, ⟨T10, Lz10, kz10, nz10⟩, -, X10, ⟨Lc10, hQ10, lz10, yz10, zz10⟩, st10⟩ := Jvm.LawKit.callS X7 hx (y := (⟨"com/example/locator/locator/cli/WarmUpPassedPinLaw", "pick", "(IIJJ)J"⟩ : MethodName)) hown (mvT hZ (hw _ (List.mem_of_getElem? (i := 17) rfl))) (mvT hZ (hw _ (List.mem_of_getElem? (i := 18) rfl))) (mvT hZ (hw _ (List.mem_of_getElem? (i := 19) rfl))) (mvT hZ (hw _ (List.mem_of_getElem? (i := 20) rfl))) (by decide) (backOf (W := 1) (rm3 l Z a0 hw [] p3 (1 : Int32) lo hi T7.heap n0 (Nat.le_trans Z0 K_9.1) ) hZ (hw _ (List.mem_of_getElem? (i := 20) rfl)) (hw _ (List.mem_of_getElem? (i := 19) rfl)) (by decide) (by decide)) (g := (mkF m 70 #[.val (.long q1), .second, .val (.long q2), .second, .val (.int p3), .val (.int p4), .val (.long lo), .second, .val (.long hi), .second, .val (.int sr), .val (.ref bz1), .unset, .unset, .unset, .unset, .unset, .unset, .unset, .unset, .unset, .unset, .unset, .unset, .unset] [(.long hi), (.long lo), (.int (1 : Int32)), (.int p3), (.ref bz1)])) rfl (by rw [hml]; rfl) (argsL := [(.int p3), (.int (1 : Int32)), (.long lo), (.long hi)]) (rest := [(.ref bz1)]) (lenOf own_pd9 rfl) rfl (by show 2 * 0 + _ ≤ _; exact Nat.le_of_eq rfl) (hb hby at_70) (fun _ _ => ⟨rfl, rfl, (by decide : 2 + 0 ≤ _), (by decide : 14 + 0 ≤ _)⟩)
  dsimp only [Pt.U, Pt.locs, Pt.cells, Pt.slots] at X10 lz10 yz10 zz10 st10 hQ10
  have X10 := own_reb X10 lz10 yz10 zz10
  have X10 : Stand p l e room_1 s m #[(.long q1), (.long q2), (.int p3), (.int p4)] below meth c T10 _ 2 14 := X10
  obtain ⟨hvq10, Nq10, ez10⟩ := hQ10
  rw [hvq10] at st10
  have N10 := Fr.app N7 Nq10
  refine OGo.st st10 ?_
  show OGo p.tables e below _ (T10.setTop (mkF m 73 #[.val (.long q1), .second, .val (.long q2), .second, .val (.int p3), .val (.int p4), .val (.long lo), .second, .val (.long hi), .second, .val (.int sr), .val (.ref bz1), .unset, .unset, .unset, .unset, .unset, .unset, .unset, .unset, .unset, .unset, .unset, .unset, .unset] [(.long (own_pick p3 (1 : Int32) lo hi)), (.ref bz1)]))
  obtain ⟨cq11, kqz11, qz11a, qz11b, qz11c⟩ := isOf hZ ez10 Ex_8
  obtain ⟨_, _, ⟨T11, Lz11, kz11, nz11⟩, -, X11, ⟨Lc11, hQ11, lz11, yz11, zz11⟩, st11⟩ := X10.virtualBack hx (y := (⟨"com/example/locator/locator/cli/WarmUp", "passed", "(J)V"⟩ : MethodName)) (z := (⟨"com/example/locator/locator/cli/WarmUp", "passed", "(J)V"⟩ : MethodName)) hown (mvT hZ (hw _ (List.mem_of_getElem? (i := 24) rfl))) (mvT hZ (hw _ (List.mem_of_getElem? (i := 25) rfl))) (notFace_of_selects (args := #[]) (mvT hZ (hw _ (List.mem_of_getElem? (i := 27) rfl)))) (mvT hZ (hw _ (List.mem_of_getElem? (i := 27) rfl))) (mvT hZ (hw _ (List.mem_of_getElem? (i := 26) rfl))) (by decide) (backOf (W := 0) (rm4 l Z a0 hw [] bz1 (own_pick p3 (1 : Int32) lo hi) rc3 kq3 ww0 (1 : Int64) (2 : Int64) ee0 1 (own_need sr) T7.heap n0 (Nat.le_trans Z0 K_9.1) Ex_8 f1_7 f2_7 f3_7 f4_7 g_bz1 A7q g_rc3 ne_bz1_rc3 (by decide) (by decide) (by decide)) hZ (hw _ (List.mem_of_getElem? (i := 28) rfl)) (hw _ (List.mem_of_getElem? (i := 4) rfl)) (by decide) (by decide)) qz11a qz11c (g := (mkF m 73 #[.val (.long q1), .second, .val (.long q2), .second, .val (.int p3), .val (.int p4), .val (.long lo), .second, .val (.long hi), .second, .val (.int sr), .val (.ref bz1), .unset, .unset, .unset, .unset, .unset, .unset, .unset, .unset, .unset, .unset, .unset, .unset, .unset] [(.long (own_pick p3 (1 : Int32) lo hi)), (.ref bz1)])) rfl (by rw [hml]; rfl) (Steps.refl _) (argsL := [(.long (own_pick p3 (1 : Int32) lo hi))]) (rest := []) (lenOf own_pd10 rfl) rfl (by show 2 * 0 + _ ≤ _; exact Nat.le_of_eq rfl) (hb hby at_73) (fun _ _ => ⟨rfl, ez10, (by decide : 2 + 0 ≤ _), (by decide : 14 + 0 ≤ _)⟩)
  dsimp only [Pt.U, Pt.locs, Pt.cells, Pt.slots] at X11 lz11 yz11 zz11 st11 hQ11
  have X11 := own_reb X11 lz11 yz11 zz11
  have X11 : Stand p l e room_1 s m #[(.long q1), (.long q2), (.int p3), (.int p4)] below meth c T11 _ 2 14 := X11
  obtain ⟨hvq11, Nq11, Kq11, f1_11, f2_11, f3_11, f4_11, A11q⟩ := hQ11
  rw [hvq11] at st11
  have N11 := Fr.app N10 Nq11
  have Ex_12 := Ex_8.keep Kq11
  have K_13 : Keep h0 T11.heap [] := K_9.trans Kq11 (allS (Or.inr sz_bz1) (allS (Or.inr sz_rc3) all0))
  obtain ⟨ww1, hww1⟩ : ∃ z, z = own_setw ww0 1 (own_pick p3 (1 : Int32) lo hi) := ⟨_, rfl⟩
  rw [← hww1] at A11q
  obtain ⟨ee1, hee1⟩ : ∃ z, z = (ee0 + (own_pick p3 (1 : Int32) lo hi)) := ⟨_, rfl⟩
  rw [← hee1] at f4_11
  refine OGo.tr st11 ?_
  show OGo p.tables e below _ (T11.setTop (mkF m 76 #[.val (.long q1), .second, .val (.long q2), .second, .val (.int p3), .val (.int p4), .val (.long lo), .second, .val (.long hi), .second, .val (.int sr), .val (.ref bz1), .unset, .unset, .unset, .unset, .unset, .unset, .unset, .unset, .unset, .unset, .unset, .unset, .unset] []))
  refine OGo.st (fun _ k_ => XS.aload X11.here hx rfl (hb hby at_76) rfl rfl k_) ?_
  show OGo p.tables e below _ (T11.setTop (mkF m 78 #[.val (.long q1), .second, .val (.long q2), .second, .val (.int p3), .val (.int p4), .val (.long lo), .second, .val (.long hi), .second, .val (.int sr), .val (.ref bz1), .unset, .unset, .unset, .unset, .unset, .unset, .unset, .unset, .unset, .unset, .unset, .unset, .unset] [(.ref bz1)]))
  refine OGo.st (fun _ k_ => XS.iload X11.here hx rfl (hb hby at_78) rfl k_) ?_
  show OGo p.tables e below _ (T11.setTop (mkF m 80 #[.val (.long q1), .second, .val (.long q2), .second, .val (.int p3), .val (.int p4), .val (.long lo), .second, .val (.long hi), .second, .val (.int sr), .val (.ref bz1), .unset, .unset, .unset, .unset, .unset, .unset, .unset, .unset, .unset, .unset, .unset, .unset, .unset] [(.int p3), (.ref bz1)]))
  refine OGo.st (fun _ k_ => XS.iconst X11.here hx rfl (hb hby at_80) k_) ?_
  show OGo p.tables e below _ (T11.setTop (mkF m 81 #[.val (.long q1), .second, .val (.long q2), .second, .val (.int p3), .val (.int p4), .val (.long lo), .second, .val (.long hi), .second, .val (.int sr), .val (.ref bz1), .unset, .unset, .unset, .unset, .unset, .unset, .unset, .unset, .unset, .unset, .unset, .unset, .unset] [(.int (2 : Int32)), (.int p3), (.ref bz1)]))
  refine OGo.st (fun _ k_ => XS.lload X11.here hx rfl (hb hby at_81) rfl k_) ?_
  show OGo p.tables e below _ (T11.setTop (mkF m 83 #[.val (.long q1), .second, .val (.long q2), .second, .val (.int p3), .val (.int p4), .val (.long lo), .second, .val (.long hi), .second, .val (.int sr), .val (.ref bz1), .unset, .unset, .unset, .unset, .unset, .unset, .unset, .unset, .unset, .unset, .unset, .unset, .unset] [(.long lo), (.int (2 : Int32)), (.int p3), (.ref bz1)]))
  refine OGo.st (fun _ k_ => XS.lload X11.here hx rfl (hb hby at_83) rfl k_) ?_
  show OGo p.tables e below _ (T11.setTop (mkF m 85 #[.val (.long q1), .second, .val (.long q2), .second, .val (.int p3), .val (.int p4), .val (.long lo), .second, .val (.long hi), .second, .val (.int sr), .val (.ref bz1), .unset, .unset, .unset, .unset, .unset, .unset, .unset, .unset, .unset, .unset, .unset, .unset, .unset] [(.long hi), (.long lo), (.int (2 : Int32)), (.int p3), (.ref bz1)]))
  obtain ⟨_, _, ⟨T14, Lz14, kz14, nz14⟩, -, X14, ⟨Lc14, hQ14, lz14, yz14, zz14⟩, st14⟩ := Jvm.LawKit.callS X11 hx (y := (⟨"com/example/locator/locator/cli/WarmUpPassedPinLaw", "pick", "(IIJJ)J"⟩ : MethodName)) hown (mvT hZ (hw _ (List.mem_of_getElem? (i := 17) rfl))) (mvT hZ (hw _ (List.mem_of_getElem? (i := 18) rfl))) (mvT hZ (hw _ (List.mem_of_getElem? (i := 19) rfl))) (mvT hZ (hw _ (List.mem_of_getElem? (i := 20) rfl))) (by decide) (backOf (W := 1) (rm3 l Z a0 hw [] p3 (2 : Int32) lo hi T11.heap n0 (Nat.le_trans Z0 K_13.1) ) hZ (hw _ (List.mem_of_getElem? (i := 20) rfl)) (hw _ (List.mem_of_getElem? (i := 19) rfl)) (by decide) (by decide)) (g := (mkF m 85 #[.val (.long q1), .second, .val (.long q2), .second, .val (.int p3), .val (.int p4), .val (.long lo), .second, .val (.long hi), .second, .val (.int sr), .val (.ref bz1), .unset, .unset, .unset, .unset, .unset, .unset, .unset, .unset, .unset, .unset, .unset, .unset, .unset] [(.long hi), (.long lo), (.int (2 : Int32)), (.int p3), (.ref bz1)])) rfl (by rw [hml]; rfl) (argsL := [(.int p3), (.int (2 : Int32)), (.long lo), (.long hi)]) (rest := [(.ref bz1)]) (lenOf own_pd9 rfl) rfl (by show 2 * 0 + _ ≤ _; exact Nat.le_of_eq rfl) (hb hby at_85) (fun _ _ => ⟨rfl, rfl, (by decide : 2 + 0 ≤ _), (by decide : 14 + 0 ≤ _)⟩)
  dsimp only [Pt.U, Pt.locs, Pt.cells, Pt.slots] at X14 lz14 yz14 zz14 st14 hQ14
  have X14 := own_reb X14 lz14 yz14 zz14
  have X14 : Stand p l e room_1 s m #[(.long q1), (.long q2), (.int p3), (.int p4)] below meth c T14 _ 2 14 := X14
  obtain ⟨hvq14, Nq14, ez14⟩ := hQ14
  rw [hvq14] at st14
  have N14 := Fr.app N11 Nq14
  refine OGo.st st14 ?_
  show OGo p.tables e below _ (T14.setTop (mkF m 88 #[.val (.long q1), .second, .val (.long q2), .second, .val (.int p3), .val (.int p4), .val (.long lo), .second, .val (.long hi), .second, .val (.int sr), .val (.ref bz1), .unset, .unset, .unset, .unset, .unset, .unset, .unset, .unset, .unset, .unset, .unset, .unset, .unset] [(.long (own_pick p3 (2 : Int32) lo hi)), (.ref bz1)]))
  obtain ⟨cq15, kqz15, qz15a, qz15b, qz15c⟩ := isOf hZ ez14 Ex_12
  obtain ⟨_, _, ⟨T15, Lz15, kz15, nz15⟩, -, X15, ⟨Lc15, hQ15, lz15, yz15, zz15⟩, st15⟩ := X14.virtualBack hx (y := (⟨"com/example/locator/locator/cli/WarmUp", "passed", "(J)V"⟩ : MethodName)) (z := (⟨"com/example/locator/locator/cli/WarmUp", "passed", "(J)V"⟩ : MethodName)) hown (mvT hZ (hw _ (List.mem_of_getElem? (i := 24) rfl))) (mvT hZ (hw _ (List.mem_of_getElem? (i := 25) rfl))) (notFace_of_selects (args := #[]) (mvT hZ (hw _ (List.mem_of_getElem? (i := 27) rfl)))) (mvT hZ (hw _ (List.mem_of_getElem? (i := 27) rfl))) (mvT hZ (hw _ (List.mem_of_getElem? (i := 26) rfl))) (by decide) (backOf (W := 0) (rm4 l Z a0 hw [] bz1 (own_pick p3 (2 : Int32) lo hi) rc3 kq3 ww1 (2 : Int64) (3 : Int64) ee1 2 (own_need sr) T11.heap n0 (Nat.le_trans Z0 K_13.1) Ex_12 f1_11 f2_11 f3_11 f4_11 g_bz1 A11q g_rc3 ne_bz1_rc3 (by decide) (by decide) (by decide)) hZ (hw _ (List.mem_of_getElem? (i := 28) rfl)) (hw _ (List.mem_of_getElem? (i := 4) rfl)) (by decide) (by decide)) qz15a qz15c (g := (mkF m 88 #[.val (.long q1), .second, .val (.long q2), .second, .val (.int p3), .val (.int p4), .val (.long lo), .second, .val (.long hi), .second, .val (.int sr), .val (.ref bz1), .unset, .unset, .unset, .unset, .unset, .unset, .unset, .unset, .unset, .unset, .unset, .unset, .unset] [(.long (own_pick p3 (2 : Int32) lo hi)), (.ref bz1)])) rfl (by rw [hml]; rfl) (Steps.refl _) (argsL := [(.long (own_pick p3 (2 : Int32) lo hi))]) (rest := []) (lenOf own_pd10 rfl) rfl (by show 2 * 0 + _ ≤ _; exact Nat.le_of_eq rfl) (hb hby at_88) (fun _ _ => ⟨rfl, ez14, (by decide : 2 + 0 ≤ _), (by decide : 14 + 0 ≤ _)⟩)
  dsimp only [Pt.U, Pt.locs, Pt.cells, Pt.slots] at X15 lz15 yz15 zz15 st15 hQ15
  have X15 := own_reb X15 lz15 yz15 zz15
  have X15 : Stand p l e room_1 s m #[(.long q1), (.long q2), (.int p3), (.int p4)] below meth c T15 _ 2 14 := X15
  obtain ⟨hvq15, Nq15, Kq15, f1_15, f2_15, f3_15, f4_15, A15q⟩ := hQ15
  rw [hvq15] at st15
  have N15 := Fr.app N14 Nq15
  have Ex_16 := Ex_12.keep Kq15
  have K_17 : Keep h0 T15.heap [] := K_13.trans Kq15 (allS (Or.inr sz_bz1) (allS (Or.inr sz_rc3) all0))
  obtain ⟨ww2, hww2⟩ : ∃ z, z = own_setw ww1 2 (own_pick p3 (2 : Int32) lo hi) := ⟨_, rfl⟩
  rw [← hww2] at A15q
  obtain ⟨ee2, hee2⟩ : ∃ z, z = (ee1 + (own_pick p3 (2 : Int32) lo hi)) := ⟨_, rfl⟩
  rw [← hee2] at f4_15
  refine OGo.tr st15 ?_
  show OGo p.tables e below _ (T15.setTop (mkF m 91 #[.val (.long q1), .second, .val (.long q2), .second, .val (.int p3), .val (.int p4), .val (.long lo), .second, .val (.long hi), .second, .val (.int sr), .val (.ref bz1), .unset, .unset, .unset, .unset, .unset, .unset, .unset, .unset, .unset, .unset, .unset, .unset, .unset] []))
  refine OGo.st (fun _ k_ => XS.aload X15.here hx rfl (hb hby at_91) rfl rfl k_) ?_
  show OGo p.tables e below _ (T15.setTop (mkF m 93 #[.val (.long q1), .second, .val (.long q2), .second, .val (.int p3), .val (.int p4), .val (.long lo), .second, .val (.long hi), .second, .val (.int sr), .val (.ref bz1), .unset, .unset, .unset, .unset, .unset, .unset, .unset, .unset, .unset, .unset, .unset, .unset, .unset] [(.ref bz1)]))
  refine OGo.st (fun _ k_ => XS.iload X15.here hx rfl (hb hby at_93) rfl k_) ?_
  show OGo p.tables e below _ (T15.setTop (mkF m 95 #[.val (.long q1), .second, .val (.long q2), .second, .val (.int p3), .val (.int p4), .val (.long lo), .second, .val (.long hi), .second, .val (.int sr), .val (.ref bz1), .unset, .unset, .unset, .unset, .unset, .unset, .unset, .unset, .unset, .unset, .unset, .unset, .unset] [(.int p3), (.ref bz1)]))
  refine OGo.st (fun _ k_ => XS.iconst X15.here hx rfl (hb hby at_95) k_) ?_
  show OGo p.tables e below _ (T15.setTop (mkF m 96 #[.val (.long q1), .second, .val (.long q2), .second, .val (.int p3), .val (.int p4), .val (.long lo), .second, .val (.long hi), .second, .val (.int sr), .val (.ref bz1), .unset, .unset, .unset, .unset, .unset, .unset, .unset, .unset, .unset, .unset, .unset, .unset, .unset] [(.int (3 : Int32)), (.int p3), (.ref bz1)]))
  refine OGo.st (fun _ k_ => XS.lload X15.here hx rfl (hb hby at_96) rfl k_) ?_
  show OGo p.tables e below _ (T15.setTop (mkF m 98 #[.val (.long q1), .second, .val (.long q2), .second, .val (.int p3), .val (.int p4), .val (.long lo), .second, .val (.long hi), .second, .val (.int sr), .val (.ref bz1), .unset, .unset, .unset, .unset, .unset, .unset, .unset, .unset, .unset, .unset, .unset, .unset, .unset] [(.long lo), (.int (3 : Int32)), (.int p3), (.ref bz1)]))
  refine OGo.st (fun _ k_ => XS.lload X15.here hx rfl (hb hby at_98) rfl k_) ?_
  show OGo p.tables e below _ (T15.setTop (mkF m 100 #[.val (.long q1), .second, .val (.long q2), .second, .val (.int p3), .val (.int p4), .val (.long lo), .second, .val (.long hi), .second, .val (.int sr), .val (.ref bz1), .unset, .unset, .unset, .unset, .unset, .unset, .unset, .unset, .unset, .unset, .unset, .unset, .unset] [(.long hi), (.long lo), (.int (3 : Int32)), (.int p3), (.ref bz1)]))
  obtain ⟨_, _, ⟨T18, Lz18, kz18, nz18⟩, -, X18, ⟨Lc18, hQ18, lz18, yz18, zz18⟩, st18⟩ := Jvm.LawKit.callS X15 hx (y := (⟨"com/example/locator/locator/cli/WarmUpPassedPinLaw", "pick", "(IIJJ)J"⟩ : MethodName)) hown (mvT hZ (hw _ (List.mem_of_getElem? (i := 17) rfl))) (mvT hZ (hw _ (List.mem_of_getElem? (i := 18) rfl))) (mvT hZ (hw _ (List.mem_of_getElem? (i := 19) rfl))) (mvT hZ (hw _ (List.mem_of_getElem? (i := 20) rfl))) (by decide) (backOf (W := 1) (rm3 l Z a0 hw [] p3 (3 : Int32) lo hi T15.heap n0 (Nat.le_trans Z0 K_17.1) ) hZ (hw _ (List.mem_of_getElem? (i := 20) rfl)) (hw _ (List.mem_of_getElem? (i := 19) rfl)) (by decide) (by decide)) (g := (mkF m 100 #[.val (.long q1), .second, .val (.long q2), .second, .val (.int p3), .val (.int p4), .val (.long lo), .second, .val (.long hi), .second, .val (.int sr), .val (.ref bz1), .unset, .unset, .unset, .unset, .unset, .unset, .unset, .unset, .unset, .unset, .unset, .unset, .unset] [(.long hi), (.long lo), (.int (3 : Int32)), (.int p3), (.ref bz1)])) rfl (by rw [hml]; rfl) (argsL := [(.int p3), (.int (3 : Int32)), (.long lo), (.long hi)]) (rest := [(.ref bz1)]) (lenOf own_pd9 rfl) rfl (by show 2 * 0 + _ ≤ _; exact Nat.le_of_eq rfl) (hb hby at_100) (fun _ _ => ⟨rfl, rfl, (by decide : 2 + 0 ≤ _), (by decide : 14 + 0 ≤ _)⟩)
  dsimp only [Pt.U, Pt.locs, Pt.cells, Pt.slots] at X18 lz18 yz18 zz18 st18 hQ18
  have X18 := own_reb X18 lz18 yz18 zz18
  have X18 : Stand p l e room_1 s m #[(.long q1), (.long q2), (.int p3), (.int p4)] below meth c T18 _ 2 14 := X18
  obtain ⟨hvq18, Nq18, ez18⟩ := hQ18
  rw [hvq18] at st18
  have N18 := Fr.app N15 Nq18
  refine OGo.st st18 ?_
  show OGo p.tables e below _ (T18.setTop (mkF m 103 #[.val (.long q1), .second, .val (.long q2), .second, .val (.int p3), .val (.int p4), .val (.long lo), .second, .val (.long hi), .second, .val (.int sr), .val (.ref bz1), .unset, .unset, .unset, .unset, .unset, .unset, .unset, .unset, .unset, .unset, .unset, .unset, .unset] [(.long (own_pick p3 (3 : Int32) lo hi)), (.ref bz1)]))
  obtain ⟨cq19, kqz19, qz19a, qz19b, qz19c⟩ := isOf hZ ez18 Ex_16
  obtain ⟨_, _, ⟨T19, Lz19, kz19, nz19⟩, -, X19, ⟨Lc19, hQ19, lz19, yz19, zz19⟩, st19⟩ := X18.virtualBack hx (y := (⟨"com/example/locator/locator/cli/WarmUp", "passed", "(J)V"⟩ : MethodName)) (z := (⟨"com/example/locator/locator/cli/WarmUp", "passed", "(J)V"⟩ : MethodName)) hown (mvT hZ (hw _ (List.mem_of_getElem? (i := 24) rfl))) (mvT hZ (hw _ (List.mem_of_getElem? (i := 25) rfl))) (notFace_of_selects (args := #[]) (mvT hZ (hw _ (List.mem_of_getElem? (i := 27) rfl)))) (mvT hZ (hw _ (List.mem_of_getElem? (i := 27) rfl))) (mvT hZ (hw _ (List.mem_of_getElem? (i := 26) rfl))) (by decide) (backOf (W := 0) (rm4 l Z a0 hw [] bz1 (own_pick p3 (3 : Int32) lo hi) rc3 kq3 ww2 (3 : Int64) (4 : Int64) ee2 3 (own_need sr) T15.heap n0 (Nat.le_trans Z0 K_17.1) Ex_16 f1_15 f2_15 f3_15 f4_15 g_bz1 A15q g_rc3 ne_bz1_rc3 (by decide) (by decide) (by decide)) hZ (hw _ (List.mem_of_getElem? (i := 28) rfl)) (hw _ (List.mem_of_getElem? (i := 4) rfl)) (by decide) (by decide)) qz19a qz19c (g := (mkF m 103 #[.val (.long q1), .second, .val (.long q2), .second, .val (.int p3), .val (.int p4), .val (.long lo), .second, .val (.long hi), .second, .val (.int sr), .val (.ref bz1), .unset, .unset, .unset, .unset, .unset, .unset, .unset, .unset, .unset, .unset, .unset, .unset, .unset] [(.long (own_pick p3 (3 : Int32) lo hi)), (.ref bz1)])) rfl (by rw [hml]; rfl) (Steps.refl _) (argsL := [(.long (own_pick p3 (3 : Int32) lo hi))]) (rest := []) (lenOf own_pd10 rfl) rfl (by show 2 * 0 + _ ≤ _; exact Nat.le_of_eq rfl) (hb hby at_103) (fun _ _ => ⟨rfl, ez18, (by decide : 2 + 0 ≤ _), (by decide : 14 + 0 ≤ _)⟩)
  dsimp only [Pt.U, Pt.locs, Pt.cells, Pt.slots] at X19 lz19 yz19 zz19 st19 hQ19
  have X19 := own_reb X19 lz19 yz19 zz19
  have X19 : Stand p l e room_1 s m #[(.long q1), (.long q2), (.int p3), (.int p4)] below meth c T19 _ 2 14 := X19
  obtain ⟨hvq19, Nq19, Kq19, f1_19, f2_19, f3_19, f4_19, A19q⟩ := hQ19
  rw [hvq19] at st19
  have N19 := Fr.app N18 Nq19
  have Ex_20 := Ex_16.keep Kq19
  have K_21 : Keep h0 T19.heap [] := K_17.trans Kq19 (allS (Or.inr sz_bz1) (allS (Or.inr sz_rc3) all0))
  obtain ⟨ww3, hww3⟩ : ∃ z, z = own_setw ww2 3 (own_pick p3 (3 : Int32) lo hi) := ⟨_, rfl⟩
  rw [← hww3] at A19q
  obtain ⟨ee3, hee3⟩ : ∃ z, z = (ee2 + (own_pick p3 (3 : Int32) lo hi)) := ⟨_, rfl⟩
  rw [← hee3] at f4_19
  refine OGo.tr st19 ?_
  show OGo p.tables e below _ (T19.setTop (mkF m 106 #[.val (.long q1), .second, .val (.long q2), .second, .val (.int p3), .val (.int p4), .val (.long lo), .second, .val (.long hi), .second, .val (.int sr), .val (.ref bz1), .unset, .unset, .unset, .unset, .unset, .unset, .unset, .unset, .unset, .unset, .unset, .unset, .unset] []))
  refine OGo.st (fun _ k_ => XS.aload X19.here hx rfl (hb hby at_106) rfl rfl k_) ?_
  show OGo p.tables e below _ (T19.setTop (mkF m 108 #[.val (.long q1), .second, .val (.long q2), .second, .val (.int p3), .val (.int p4), .val (.long lo), .second, .val (.long hi), .second, .val (.int sr), .val (.ref bz1), .unset, .unset, .unset, .unset, .unset, .unset, .unset, .unset, .unset, .unset, .unset, .unset, .unset] [(.ref bz1)]))
  refine OGo.st (fun _ k_ => XS.iload X19.here hx rfl (hb hby at_108) rfl k_) ?_
  show OGo p.tables e below _ (T19.setTop (mkF m 110 #[.val (.long q1), .second, .val (.long q2), .second, .val (.int p3), .val (.int p4), .val (.long lo), .second, .val (.long hi), .second, .val (.int sr), .val (.ref bz1), .unset, .unset, .unset, .unset, .unset, .unset, .unset, .unset, .unset, .unset, .unset, .unset, .unset] [(.int p3), (.ref bz1)]))
  refine OGo.st (fun _ k_ => XS.iconst X19.here hx rfl (hb hby at_110) k_) ?_
  show OGo p.tables e below _ (T19.setTop (mkF m 111 #[.val (.long q1), .second, .val (.long q2), .second, .val (.int p3), .val (.int p4), .val (.long lo), .second, .val (.long hi), .second, .val (.int sr), .val (.ref bz1), .unset, .unset, .unset, .unset, .unset, .unset, .unset, .unset, .unset, .unset, .unset, .unset, .unset] [(.int (4 : Int32)), (.int p3), (.ref bz1)]))
  refine OGo.st (fun _ k_ => XS.lload X19.here hx rfl (hb hby at_111) rfl k_) ?_
  show OGo p.tables e below _ (T19.setTop (mkF m 113 #[.val (.long q1), .second, .val (.long q2), .second, .val (.int p3), .val (.int p4), .val (.long lo), .second, .val (.long hi), .second, .val (.int sr), .val (.ref bz1), .unset, .unset, .unset, .unset, .unset, .unset, .unset, .unset, .unset, .unset, .unset, .unset, .unset] [(.long lo), (.int (4 : Int32)), (.int p3), (.ref bz1)]))
  refine OGo.st (fun _ k_ => XS.lload X19.here hx rfl (hb hby at_113) rfl k_) ?_
  show OGo p.tables e below _ (T19.setTop (mkF m 115 #[.val (.long q1), .second, .val (.long q2), .second, .val (.int p3), .val (.int p4), .val (.long lo), .second, .val (.long hi), .second, .val (.int sr), .val (.ref bz1), .unset, .unset, .unset, .unset, .unset, .unset, .unset, .unset, .unset, .unset, .unset, .unset, .unset] [(.long hi), (.long lo), (.int (4 : Int32)), (.int p3), (.ref bz1)]))
  obtain ⟨_, _, ⟨T22, Lz22, kz22, nz22⟩, -, X22, ⟨Lc22, hQ22, lz22, yz22, zz22⟩, st22⟩ := Jvm.LawKit.callS X19 hx (y := (⟨"com/example/locator/locator/cli/WarmUpPassedPinLaw", "pick", "(IIJJ)J"⟩ : MethodName)) hown (mvT hZ (hw _ (List.mem_of_getElem? (i := 17) rfl))) (mvT hZ (hw _ (List.mem_of_getElem? (i := 18) rfl))) (mvT hZ (hw _ (List.mem_of_getElem? (i := 19) rfl))) (mvT hZ (hw _ (List.mem_of_getElem? (i := 20) rfl))) (by decide) (backOf (W := 1) (rm3 l Z a0 hw [] p3 (4 : Int32) lo hi T19.heap n0 (Nat.le_trans Z0 K_21.1) ) hZ (hw _ (List.mem_of_getElem? (i := 20) rfl)) (hw _ (List.mem_of_getElem? (i := 19) rfl)) (by decide) (by decide)) (g := (mkF m 115 #[.val (.long q1), .second, .val (.long q2), .second, .val (.int p3), .val (.int p4), .val (.long lo), .second, .val (.long hi), .second, .val (.int sr), .val (.ref bz1), .unset, .unset, .unset, .unset, .unset, .unset, .unset, .unset, .unset, .unset, .unset, .unset, .unset] [(.long hi), (.long lo), (.int (4 : Int32)), (.int p3), (.ref bz1)])) rfl (by rw [hml]; rfl) (argsL := [(.int p3), (.int (4 : Int32)), (.long lo), (.long hi)]) (rest := [(.ref bz1)]) (lenOf own_pd9 rfl) rfl (by show 2 * 0 + _ ≤ _; exact Nat.le_of_eq rfl) (hb hby at_115) (fun _ _ => ⟨rfl, rfl, (by decide : 2 + 0 ≤ _), (by decide : 14 + 0 ≤ _)⟩)
  dsimp only [Pt.U, Pt.locs, Pt.cells, Pt.slots] at X22 lz22 yz22 zz22 st22 hQ22
  have X22 := own_reb X22 lz22 yz22 zz22
  have X22 : Stand p l e room_1 s m #[(.long q1), (.long q2), (.int p3), (.int p4)] below meth c T22 _ 2 14 := X22
  obtain ⟨hvq22, Nq22, ez22⟩ := hQ22
  rw [hvq22] at st22
  have N22 := Fr.app N19 Nq22
  refine OGo.st st22 ?_
  show OGo p.tables e below _ (T22.setTop (mkF m 118 #[.val (.long q1), .second, .val (.long q2), .second, .val (.int p3), .val (.int p4), .val (.long lo), .second, .val (.long hi), .second, .val (.int sr), .val (.ref bz1), .unset, .unset, .unset, .unset, .unset, .unset, .unset, .unset, .unset, .unset, .unset, .unset, .unset] [(.long (own_pick p3 (4 : Int32) lo hi)), (.ref bz1)]))
  obtain ⟨cq23, kqz23, qz23a, qz23b, qz23c⟩ := isOf hZ ez22 Ex_20
  obtain ⟨_, _, ⟨T23, Lz23, kz23, nz23⟩, -, X23, ⟨Lc23, hQ23, lz23, yz23, zz23⟩, st23⟩ := X22.virtualBack hx (y := (⟨"com/example/locator/locator/cli/WarmUp", "passed", "(J)V"⟩ : MethodName)) (z := (⟨"com/example/locator/locator/cli/WarmUp", "passed", "(J)V"⟩ : MethodName)) hown (mvT hZ (hw _ (List.mem_of_getElem? (i := 24) rfl))) (mvT hZ (hw _ (List.mem_of_getElem? (i := 25) rfl))) (notFace_of_selects (args := #[]) (mvT hZ (hw _ (List.mem_of_getElem? (i := 27) rfl)))) (mvT hZ (hw _ (List.mem_of_getElem? (i := 27) rfl))) (mvT hZ (hw _ (List.mem_of_getElem? (i := 26) rfl))) (by decide) (backOf (W := 0) (rm4 l Z a0 hw [] bz1 (own_pick p3 (4 : Int32) lo hi) rc3 kq3 ww3 (4 : Int64) (5 : Int64) ee3 4 (own_need sr) T19.heap n0 (Nat.le_trans Z0 K_21.1) Ex_20 f1_19 f2_19 f3_19 f4_19 g_bz1 A19q g_rc3 ne_bz1_rc3 (by decide) (by decide) (by decide)) hZ (hw _ (List.mem_of_getElem? (i := 28) rfl)) (hw _ (List.mem_of_getElem? (i := 4) rfl)) (by decide) (by decide)) qz23a qz23c (g := (mkF m 118 #[.val (.long q1), .second, .val (.long q2), .second, .val (.int p3), .val (.int p4), .val (.long lo), .second, .val (.long hi), .second, .val (.int sr), .val (.ref bz1), .unset, .unset, .unset, .unset, .unset, .unset, .unset, .unset, .unset, .unset, .unset, .unset, .unset] [(.long (own_pick p3 (4 : Int32) lo hi)), (.ref bz1)])) rfl (by rw [hml]; rfl) (Steps.refl _) (argsL := [(.long (own_pick p3 (4 : Int32) lo hi))]) (rest := []) (lenOf own_pd10 rfl) rfl (by show 2 * 0 + _ ≤ _; exact Nat.le_of_eq rfl) (hb hby at_118) (fun _ _ => ⟨rfl, ez22, (by decide : 2 + 0 ≤ _), (by decide : 14 + 0 ≤ _)⟩)
  dsimp only [Pt.U, Pt.locs, Pt.cells, Pt.slots] at X23 lz23 yz23 zz23 st23 hQ23
  have X23 := own_reb X23 lz23 yz23 zz23
  have X23 : Stand p l e room_1 s m #[(.long q1), (.long q2), (.int p3), (.int p4)] below meth c T23 _ 2 14 := X23
  obtain ⟨hvq23, Nq23, Kq23, f1_23, f2_23, f3_23, f4_23, A23q⟩ := hQ23
  rw [hvq23] at st23
  have N23 := Fr.app N22 Nq23
  have Ex_24 := Ex_20.keep Kq23
  have K_25 : Keep h0 T23.heap [] := K_21.trans Kq23 (allS (Or.inr sz_bz1) (allS (Or.inr sz_rc3) all0))
  obtain ⟨ww4, hww4⟩ : ∃ z, z = own_setw ww3 4 (own_pick p3 (4 : Int32) lo hi) := ⟨_, rfl⟩
  rw [← hww4] at A23q
  obtain ⟨ee4, hee4⟩ : ∃ z, z = (ee3 + (own_pick p3 (4 : Int32) lo hi)) := ⟨_, rfl⟩
  rw [← hee4] at f4_23
  refine OGo.tr st23 ?_
  show OGo p.tables e below _ (T23.setTop (mkF m 121 #[.val (.long q1), .second, .val (.long q2), .second, .val (.int p3), .val (.int p4), .val (.long lo), .second, .val (.long hi), .second, .val (.int sr), .val (.ref bz1), .unset, .unset, .unset, .unset, .unset, .unset, .unset, .unset, .unset, .unset, .unset, .unset, .unset] []))
  refine OGo.st (fun _ k_ => XS.aload X23.here hx rfl (hb hby at_121) rfl rfl k_) ?_
  show OGo p.tables e below _ (T23.setTop (mkF m 123 #[.val (.long q1), .second, .val (.long q2), .second, .val (.int p3), .val (.int p4), .val (.long lo), .second, .val (.long hi), .second, .val (.int sr), .val (.ref bz1), .unset, .unset, .unset, .unset, .unset, .unset, .unset, .unset, .unset, .unset, .unset, .unset, .unset] [(.ref bz1)]))
  refine OGo.st (fun _ k_ => XS.iload X23.here hx rfl (hb hby at_123) rfl k_) ?_
  show OGo p.tables e below _ (T23.setTop (mkF m 125 #[.val (.long q1), .second, .val (.long q2), .second, .val (.int p3), .val (.int p4), .val (.long lo), .second, .val (.long hi), .second, .val (.int sr), .val (.ref bz1), .unset, .unset, .unset, .unset, .unset, .unset, .unset, .unset, .unset, .unset, .unset, .unset, .unset] [(.int p3), (.ref bz1)]))
  refine OGo.st (fun _ k_ => XS.iconst X23.here hx rfl (hb hby at_125) k_) ?_
  show OGo p.tables e below _ (T23.setTop (mkF m 126 #[.val (.long q1), .second, .val (.long q2), .second, .val (.int p3), .val (.int p4), .val (.long lo), .second, .val (.long hi), .second, .val (.int sr), .val (.ref bz1), .unset, .unset, .unset, .unset, .unset, .unset, .unset, .unset, .unset, .unset, .unset, .unset, .unset] [(.int (5 : Int32)), (.int p3), (.ref bz1)]))
  refine OGo.st (fun _ k_ => XS.lload X23.here hx rfl (hb hby at_126) rfl k_) ?_
  show OGo p.tables e below _ (T23.setTop (mkF m 128 #[.val (.long q1), .second, .val (.long q2), .second, .val (.int p3), .val (.int p4), .val (.long lo), .second, .val (.long hi), .second, .val (.int sr), .val (.ref bz1), .unset, .unset, .unset, .unset, .unset, .unset, .unset, .unset, .unset, .unset, .unset, .unset, .unset] [(.long lo), (.int (5 : Int32)), (.int p3), (.ref bz1)]))
  refine OGo.st (fun _ k_ => XS.lload X23.here hx rfl (hb hby at_128) rfl k_) ?_
  show OGo p.tables e below _ (T23.setTop (mkF m 130 #[.val (.long q1), .second, .val (.long q2), .second, .val (.int p3), .val (.int p4), .val (.long lo), .second, .val (.long hi), .second, .val (.int sr), .val (.ref bz1), .unset, .unset, .unset, .unset, .unset, .unset, .unset, .unset, .unset, .unset, .unset, .unset, .unset] [(.long hi), (.long lo), (.int (5 : Int32)), (.int p3), (.ref bz1)]))
  obtain ⟨_, _, ⟨T26, Lz26, kz26, nz26⟩, -, X26, ⟨Lc26, hQ26, lz26, yz26, zz26⟩, st26⟩ := Jvm.LawKit.callS X23 hx (y := (⟨"com/example/locator/locator/cli/WarmUpPassedPinLaw", "pick", "(IIJJ)J"⟩ : MethodName)) hown (mvT hZ (hw _ (List.mem_of_getElem? (i := 17) rfl))) (mvT hZ (hw _ (List.mem_of_getElem? (i := 18) rfl))) (mvT hZ (hw _ (List.mem_of_getElem? (i := 19) rfl))) (mvT hZ (hw _ (List.mem_of_getElem? (i := 20) rfl))) (by decide) (backOf (W := 1) (rm3 l Z a0 hw [] p3 (5 : Int32) lo hi T23.heap n0 (Nat.le_trans Z0 K_25.1) ) hZ (hw _ (List.mem_of_getElem? (i := 20) rfl)) (hw _ (List.mem_of_getElem? (i := 19) rfl)) (by decide) (by decide)) (g := (mkF m 130 #[.val (.long q1), .second, .val (.long q2), .second, .val (.int p3), .val (.int p4), .val (.long lo), .second, .val (.long hi), .second, .val (.int sr), .val (.ref bz1), .unset, .unset, .unset, .unset, .unset, .unset, .unset, .unset, .unset, .unset, .unset, .unset, .unset] [(.long hi), (.long lo), (.int (5 : Int32)), (.int p3), (.ref bz1)])) rfl (by rw [hml]; rfl) (argsL := [(.int p3), (.int (5 : Int32)), (.long lo), (.long hi)]) (rest := [(.ref bz1)]) (lenOf own_pd9 rfl) rfl (by show 2 * 0 + _ ≤ _; exact Nat.le_of_eq rfl) (hb hby at_130) (fun _ _ => ⟨rfl, rfl, (by decide : 2 + 0 ≤ _), (by decide : 14 + 0 ≤ _)⟩)
  dsimp only [Pt.U, Pt.locs, Pt.cells, Pt.slots] at X26 lz26 yz26 zz26 st26 hQ26
  have X26 := own_reb X26 lz26 yz26 zz26
  have X26 : Stand p l e room_1 s m #[(.long q1), (.long q2), (.int p3), (.int p4)] below meth c T26 _ 2 14 := X26
  obtain ⟨hvq26, Nq26, ez26⟩ := hQ26
  rw [hvq26] at st26
  have N26 := Fr.app N23 Nq26
  refine OGo.st st26 ?_
  show OGo p.tables e below _ (T26.setTop (mkF m 133 #[.val (.long q1), .second, .val (.long q2), .second, .val (.int p3), .val (.int p4), .val (.long lo), .second, .val (.long hi), .second, .val (.int sr), .val (.ref bz1), .unset, .unset, .unset, .unset, .unset, .unset, .unset, .unset, .unset, .unset, .unset, .unset, .unset] [(.long (own_pick p3 (5 : Int32) lo hi)), (.ref bz1)]))
  obtain ⟨cq27, kqz27, qz27a, qz27b, qz27c⟩ := isOf hZ ez26 Ex_24
  obtain ⟨_, _, ⟨T27, Lz27, kz27, nz27⟩, -, X27, ⟨Lc27, hQ27, lz27, yz27, zz27⟩, st27⟩ := X26.virtualBack hx (y := (⟨"com/example/locator/locator/cli/WarmUp", "passed", "(J)V"⟩ : MethodName)) (z := (⟨"com/example/locator/locator/cli/WarmUp", "passed", "(J)V"⟩ : MethodName)) hown (mvT hZ (hw _ (List.mem_of_getElem? (i := 24) rfl))) (mvT hZ (hw _ (List.mem_of_getElem? (i := 25) rfl))) (notFace_of_selects (args := #[]) (mvT hZ (hw _ (List.mem_of_getElem? (i := 27) rfl)))) (mvT hZ (hw _ (List.mem_of_getElem? (i := 27) rfl))) (mvT hZ (hw _ (List.mem_of_getElem? (i := 26) rfl))) (by decide) (backOf (W := 0) (rm4 l Z a0 hw [] bz1 (own_pick p3 (5 : Int32) lo hi) rc3 kq3 ww4 (5 : Int64) (6 : Int64) ee4 5 (own_need sr) T23.heap n0 (Nat.le_trans Z0 K_25.1) Ex_24 f1_23 f2_23 f3_23 f4_23 g_bz1 A23q g_rc3 ne_bz1_rc3 (by decide) (by decide) (by decide)) hZ (hw _ (List.mem_of_getElem? (i := 28) rfl)) (hw _ (List.mem_of_getElem? (i := 4) rfl)) (by decide) (by decide)) qz27a qz27c (g := (mkF m 133 #[.val (.long q1), .second, .val (.long q2), .second, .val (.int p3), .val (.int p4), .val (.long lo), .second, .val (.long hi), .second, .val (.int sr), .val (.ref bz1), .unset, .unset, .unset, .unset, .unset, .unset, .unset, .unset, .unset, .unset, .unset, .unset, .unset] [(.long (own_pick p3 (5 : Int32) lo hi)), (.ref bz1)])) rfl (by rw [hml]; rfl) (Steps.refl _) (argsL := [(.long (own_pick p3 (5 : Int32) lo hi))]) (rest := []) (lenOf own_pd10 rfl) rfl (by show 2 * 0 + _ ≤ _; exact Nat.le_of_eq rfl) (hb hby at_133) (fun _ _ => ⟨rfl, ez26, (by decide : 2 + 0 ≤ _), (by decide : 14 + 0 ≤ _)⟩)
  dsimp only [Pt.U, Pt.locs, Pt.cells, Pt.slots] at X27 lz27 yz27 zz27 st27 hQ27
  have X27 := own_reb X27 lz27 yz27 zz27
  have X27 : Stand p l e room_1 s m #[(.long q1), (.long q2), (.int p3), (.int p4)] below meth c T27 _ 2 14 := X27
  obtain ⟨hvq27, Nq27, Kq27, f1_27, f2_27, f3_27, f4_27, A27q⟩ := hQ27
  rw [hvq27] at st27
  have N27 := Fr.app N26 Nq27
  have Ex_28 := Ex_24.keep Kq27
  have K_29 : Keep h0 T27.heap [] := K_25.trans Kq27 (allS (Or.inr sz_bz1) (allS (Or.inr sz_rc3) all0))
  obtain ⟨ww5, hww5⟩ : ∃ z, z = own_setw ww4 5 (own_pick p3 (5 : Int32) lo hi) := ⟨_, rfl⟩
  rw [← hww5] at A27q
  obtain ⟨ee5, hee5⟩ : ∃ z, z = (ee4 + (own_pick p3 (5 : Int32) lo hi)) := ⟨_, rfl⟩
  rw [← hee5] at f4_27
  refine OGo.tr st27 ?_
  show OGo p.tables e below _ (T27.setTop (mkF m 136 #[.val (.long q1), .second, .val (.long q2), .second, .val (.int p3), .val (.int p4), .val (.long lo), .second, .val (.long hi), .second, .val (.int sr), .val (.ref bz1), .unset, .unset, .unset, .unset, .unset, .unset, .unset, .unset, .unset, .unset, .unset, .unset, .unset] []))
  refine OGo.st (fun _ k_ => XS.aload X27.here hx rfl (hb hby at_136) rfl rfl k_) ?_
  show OGo p.tables e below _ (T27.setTop (mkF m 138 #[.val (.long q1), .second, .val (.long q2), .second, .val (.int p3), .val (.int p4), .val (.long lo), .second, .val (.long hi), .second, .val (.int sr), .val (.ref bz1), .unset, .unset, .unset, .unset, .unset, .unset, .unset, .unset, .unset, .unset, .unset, .unset, .unset] [(.ref bz1)]))
  refine OGo.st (fun _ k_ => XS.iload X27.here hx rfl (hb hby at_138) rfl k_) ?_
  show OGo p.tables e below _ (T27.setTop (mkF m 140 #[.val (.long q1), .second, .val (.long q2), .second, .val (.int p3), .val (.int p4), .val (.long lo), .second, .val (.long hi), .second, .val (.int sr), .val (.ref bz1), .unset, .unset, .unset, .unset, .unset, .unset, .unset, .unset, .unset, .unset, .unset, .unset, .unset] [(.int p3), (.ref bz1)]))
  refine OGo.st (fun _ k_ => XS.bipush X27.here hx rfl (hb hby at_140) k_) ?_
  show OGo p.tables e below _ (T27.setTop (mkF m 142 #[.val (.long q1), .second, .val (.long q2), .second, .val (.int p3), .val (.int p4), .val (.long lo), .second, .val (.long hi), .second, .val (.int sr), .val (.ref bz1), .unset, .unset, .unset, .unset, .unset, .unset, .unset, .unset, .unset, .unset, .unset, .unset, .unset] [(.int (6 : Int32)), (.int p3), (.ref bz1)]))
  refine OGo.st (fun _ k_ => XS.lload X27.here hx rfl (hb hby at_142) rfl k_) ?_
  show OGo p.tables e below _ (T27.setTop (mkF m 144 #[.val (.long q1), .second, .val (.long q2), .second, .val (.int p3), .val (.int p4), .val (.long lo), .second, .val (.long hi), .second, .val (.int sr), .val (.ref bz1), .unset, .unset, .unset, .unset, .unset, .unset, .unset, .unset, .unset, .unset, .unset, .unset, .unset] [(.long lo), (.int (6 : Int32)), (.int p3), (.ref bz1)]))
  refine OGo.st (fun _ k_ => XS.lload X27.here hx rfl (hb hby at_144) rfl k_) ?_
  show OGo p.tables e below _ (T27.setTop (mkF m 146 #[.val (.long q1), .second, .val (.long q2), .second, .val (.int p3), .val (.int p4), .val (.long lo), .second, .val (.long hi), .second, .val (.int sr), .val (.ref bz1), .unset, .unset, .unset, .unset, .unset, .unset, .unset, .unset, .unset, .unset, .unset, .unset, .unset] [(.long hi), (.long lo), (.int (6 : Int32)), (.int p3), (.ref bz1)]))
  obtain ⟨_, _, ⟨T30, Lz30, kz30, nz30⟩, -, X30, ⟨Lc30, hQ30, lz30, yz30, zz30⟩, st30⟩ := Jvm.LawKit.callS X27 hx (y := (⟨"com/example/locator/locator/cli/WarmUpPassedPinLaw", "pick", "(IIJJ)J"⟩ : MethodName)) hown (mvT hZ (hw _ (List.mem_of_getElem? (i := 17) rfl))) (mvT hZ (hw _ (List.mem_of_getElem? (i := 18) rfl))) (mvT hZ (hw _ (List.mem_of_getElem? (i := 19) rfl))) (mvT hZ (hw _ (List.mem_of_getElem? (i := 20) rfl))) (by decide) (backOf (W := 1) (rm3 l Z a0 hw [] p3 (6 : Int32) lo hi T27.heap n0 (Nat.le_trans Z0 K_29.1) ) hZ (hw _ (List.mem_of_getElem? (i := 20) rfl)) (hw _ (List.mem_of_getElem? (i := 19) rfl)) (by decide) (by decide)) (g := (mkF m 146 #[.val (.long q1), .second, .val (.long q2), .second, .val (.int p3), .val (.int p4), .val (.long lo), .second, .val (.long hi), .second, .val (.int sr), .val (.ref bz1), .unset, .unset, .unset, .unset, .unset, .unset, .unset, .unset, .unset, .unset, .unset, .unset, .unset] [(.long hi), (.long lo), (.int (6 : Int32)), (.int p3), (.ref bz1)])) rfl (by rw [hml]; rfl) (argsL := [(.int p3), (.int (6 : Int32)), (.long lo), (.long hi)]) (rest := [(.ref bz1)]) (lenOf own_pd9 rfl) rfl (by show 2 * 0 + _ ≤ _; exact Nat.le_of_eq rfl) (hb hby at_146) (fun _ _ => ⟨rfl, rfl, (by decide : 2 + 0 ≤ _), (by decide : 14 + 0 ≤ _)⟩)
  dsimp only [Pt.U, Pt.locs, Pt.cells, Pt.slots] at X30 lz30 yz30 zz30 st30 hQ30
  have X30 := own_reb X30 lz30 yz30 zz30
  have X30 : Stand p l e room_1 s m #[(.long q1), (.long q2), (.int p3), (.int p4)] below meth c T30 _ 2 14 := X30
  obtain ⟨hvq30, Nq30, ez30⟩ := hQ30
  rw [hvq30] at st30
  have N30 := Fr.app N27 Nq30
  refine OGo.st st30 ?_
  show OGo p.tables e below _ (T30.setTop (mkF m 149 #[.val (.long q1), .second, .val (.long q2), .second, .val (.int p3), .val (.int p4), .val (.long lo), .second, .val (.long hi), .second, .val (.int sr), .val (.ref bz1), .unset, .unset, .unset, .unset, .unset, .unset, .unset, .unset, .unset, .unset, .unset, .unset, .unset] [(.long (own_pick p3 (6 : Int32) lo hi)), (.ref bz1)]))
  obtain ⟨cq31, kqz31, qz31a, qz31b, qz31c⟩ := isOf hZ ez30 Ex_28
  obtain ⟨_, _, ⟨T31, Lz31, kz31, nz31⟩, -, X31, ⟨Lc31, hQ31, lz31, yz31, zz31⟩, st31⟩ := X30.virtualBack hx (y := (⟨"com/example/locator/locator/cli/WarmUp", "passed", "(J)V"⟩ : MethodName)) (z := (⟨"com/example/locator/locator/cli/WarmUp", "passed", "(J)V"⟩ : MethodName)) hown (mvT hZ (hw _ (List.mem_of_getElem? (i := 24) rfl))) (mvT hZ (hw _ (List.mem_of_getElem? (i := 25) rfl))) (notFace_of_selects (args := #[]) (mvT hZ (hw _ (List.mem_of_getElem? (i := 27) rfl)))) (mvT hZ (hw _ (List.mem_of_getElem? (i := 27) rfl))) (mvT hZ (hw _ (List.mem_of_getElem? (i := 26) rfl))) (by decide) (backOf (W := 0) (rm4 l Z a0 hw [] bz1 (own_pick p3 (6 : Int32) lo hi) rc3 kq3 ww5 (6 : Int64) (7 : Int64) ee5 6 (own_need sr) T27.heap n0 (Nat.le_trans Z0 K_29.1) Ex_28 f1_27 f2_27 f3_27 f4_27 g_bz1 A27q g_rc3 ne_bz1_rc3 (by decide) (by decide) (by decide)) hZ (hw _ (List.mem_of_getElem? (i := 28) rfl)) (hw _ (List.mem_of_getElem? (i := 4) rfl)) (by decide) (by decide)) qz31a qz31c (g := (mkF m 149 #[.val (.long q1), .second, .val (.long q2), .second, .val (.int p3), .val (.int p4), .val (.long lo), .second, .val (.long hi), .second, .val (.int sr), .val (.ref bz1), .unset, .unset, .unset, .unset, .unset, .unset, .unset, .unset, .unset, .unset, .unset, .unset, .unset] [(.long (own_pick p3 (6 : Int32) lo hi)), (.ref bz1)])) rfl (by rw [hml]; rfl) (Steps.refl _) (argsL := [(.long (own_pick p3 (6 : Int32) lo hi))]) (rest := []) (lenOf own_pd10 rfl) rfl (by show 2 * 0 + _ ≤ _; exact Nat.le_of_eq rfl) (hb hby at_149) (fun _ _ => ⟨rfl, ez30, (by decide : 2 + 0 ≤ _), (by decide : 14 + 0 ≤ _)⟩)
  dsimp only [Pt.U, Pt.locs, Pt.cells, Pt.slots] at X31 lz31 yz31 zz31 st31 hQ31
  have X31 := own_reb X31 lz31 yz31 zz31
  have X31 : Stand p l e room_1 s m #[(.long q1), (.long q2), (.int p3), (.int p4)] below meth c T31 _ 2 14 := X31
  obtain ⟨hvq31, Nq31, Kq31, f1_31, f2_31, f3_31, f4_31, A31q⟩ := hQ31
  rw [hvq31] at st31
  have N31 := Fr.app N30 Nq31
  have Ex_32 := Ex_28.keep Kq31
  have K_33 : Keep h0 T31.heap [] := K_29.trans Kq31 (allS (Or.inr sz_bz1) (allS (Or.inr sz_rc3) all0))
  obtain ⟨ww6, hww6⟩ : ∃ z, z = own_setw ww5 6 (own_pick p3 (6 : Int32) lo hi) := ⟨_, rfl⟩
  rw [← hww6] at A31q
  obtain ⟨ee6, hee6⟩ : ∃ z, z = (ee5 + (own_pick p3 (6 : Int32) lo hi)) := ⟨_, rfl⟩
  rw [← hee6] at f4_31
  refine OGo.tr st31 ?_
  show OGo p.tables e below _ (T31.setTop (mkF m 152 #[.val (.long q1), .second, .val (.long q2), .second, .val (.int p3), .val (.int p4), .val (.long lo), .second, .val (.long hi), .second, .val (.int sr), .val (.ref bz1), .unset, .unset, .unset, .unset, .unset, .unset, .unset, .unset, .unset, .unset, .unset, .unset, .unset] []))
  refine OGo.st (fun _ k_ => XS.aload X31.here hx rfl (hb hby at_152) rfl rfl k_) ?_
  show OGo p.tables e below _ (T31.setTop (mkF m 154 #[.val (.long q1), .second, .val (.long q2), .second, .val (.int p3), .val (.int p4), .val (.long lo), .second, .val (.long hi), .second, .val (.int sr), .val (.ref bz1), .unset, .unset, .unset, .unset, .unset, .unset, .unset, .unset, .unset, .unset, .unset, .unset, .unset] [(.ref bz1)]))
  refine OGo.st (fun _ k_ => XS.iload X31.here hx rfl (hb hby at_154) rfl k_) ?_
  show OGo p.tables e below _ (T31.setTop (mkF m 156 #[.val (.long q1), .second, .val (.long q2), .second, .val (.int p3), .val (.int p4), .val (.long lo), .second, .val (.long hi), .second, .val (.int sr), .val (.ref bz1), .unset, .unset, .unset, .unset, .unset, .unset, .unset, .unset, .unset, .unset, .unset, .unset, .unset] [(.int p3), (.ref bz1)]))
  refine OGo.st (fun _ k_ => XS.bipush X31.here hx rfl (hb hby at_156) k_) ?_
  show OGo p.tables e below _ (T31.setTop (mkF m 158 #[.val (.long q1), .second, .val (.long q2), .second, .val (.int p3), .val (.int p4), .val (.long lo), .second, .val (.long hi), .second, .val (.int sr), .val (.ref bz1), .unset, .unset, .unset, .unset, .unset, .unset, .unset, .unset, .unset, .unset, .unset, .unset, .unset] [(.int (7 : Int32)), (.int p3), (.ref bz1)]))
  refine OGo.st (fun _ k_ => XS.lload X31.here hx rfl (hb hby at_158) rfl k_) ?_
  show OGo p.tables e below _ (T31.setTop (mkF m 160 #[.val (.long q1), .second, .val (.long q2), .second, .val (.int p3), .val (.int p4), .val (.long lo), .second, .val (.long hi), .second, .val (.int sr), .val (.ref bz1), .unset, .unset, .unset, .unset, .unset, .unset, .unset, .unset, .unset, .unset, .unset, .unset, .unset] [(.long lo), (.int (7 : Int32)), (.int p3), (.ref bz1)]))
  refine OGo.st (fun _ k_ => XS.lload X31.here hx rfl (hb hby at_160) rfl k_) ?_
  show OGo p.tables e below _ (T31.setTop (mkF m 162 #[.val (.long q1), .second, .val (.long q2), .second, .val (.int p3), .val (.int p4), .val (.long lo), .second, .val (.long hi), .second, .val (.int sr), .val (.ref bz1), .unset, .unset, .unset, .unset, .unset, .unset, .unset, .unset, .unset, .unset, .unset, .unset, .unset] [(.long hi), (.long lo), (.int (7 : Int32)), (.int p3), (.ref bz1)]))
  obtain ⟨_, _, ⟨T34, Lz34, kz34, nz34⟩, -, X34, ⟨Lc34, hQ34, lz34, yz34, zz34⟩, st34⟩ := Jvm.LawKit.callS X31 hx (y := (⟨"com/example/locator/locator/cli/WarmUpPassedPinLaw", "pick", "(IIJJ)J"⟩ : MethodName)) hown (mvT hZ (hw _ (List.mem_of_getElem? (i := 17) rfl))) (mvT hZ (hw _ (List.mem_of_getElem? (i := 18) rfl))) (mvT hZ (hw _ (List.mem_of_getElem? (i := 19) rfl))) (mvT hZ (hw _ (List.mem_of_getElem? (i := 20) rfl))) (by decide) (backOf (W := 1) (rm3 l Z a0 hw [] p3 (7 : Int32) lo hi T31.heap n0 (Nat.le_trans Z0 K_33.1) ) hZ (hw _ (List.mem_of_getElem? (i := 20) rfl)) (hw _ (List.mem_of_getElem? (i := 19) rfl)) (by decide) (by decide)) (g := (mkF m 162 #[.val (.long q1), .second, .val (.long q2), .second, .val (.int p3), .val (.int p4), .val (.long lo), .second, .val (.long hi), .second, .val (.int sr), .val (.ref bz1), .unset, .unset, .unset, .unset, .unset, .unset, .unset, .unset, .unset, .unset, .unset, .unset, .unset] [(.long hi), (.long lo), (.int (7 : Int32)), (.int p3), (.ref bz1)])) rfl (by rw [hml]; rfl) (argsL := [(.int p3), (.int (7 : Int32)), (.long lo), (.long hi)]) (rest := [(.ref bz1)]) (lenOf own_pd9 rfl) rfl (by show 2 * 0 + _ ≤ _; exact Nat.le_of_eq rfl) (hb hby at_162) (fun _ _ => ⟨rfl, rfl, (by decide : 2 + 0 ≤ _), (by decide : 14 + 0 ≤ _)⟩)
  dsimp only [Pt.U, Pt.locs, Pt.cells, Pt.slots] at X34 lz34 yz34 zz34 st34 hQ34
  have X34 := own_reb X34 lz34 yz34 zz34
  have X34 : Stand p l e room_1 s m #[(.long q1), (.long q2), (.int p3), (.int p4)] below meth c T34 _ 2 14 := X34
  obtain ⟨hvq34, Nq34, ez34⟩ := hQ34
  rw [hvq34] at st34
  have N34 := Fr.app N31 Nq34
  refine OGo.st st34 ?_
  show OGo p.tables e below _ (T34.setTop (mkF m 165 #[.val (.long q1), .second, .val (.long q2), .second, .val (.int p3), .val (.int p4), .val (.long lo), .second, .val (.long hi), .second, .val (.int sr), .val (.ref bz1), .unset, .unset, .unset, .unset, .unset, .unset, .unset, .unset, .unset, .unset, .unset, .unset, .unset] [(.long (own_pick p3 (7 : Int32) lo hi)), (.ref bz1)]))
  obtain ⟨cq35, kqz35, qz35a, qz35b, qz35c⟩ := isOf hZ ez34 Ex_32
  obtain ⟨_, _, ⟨T35, Lz35, kz35, nz35⟩, -, X35, ⟨Lc35, hQ35, lz35, yz35, zz35⟩, st35⟩ := X34.virtualBack hx (y := (⟨"com/example/locator/locator/cli/WarmUp", "passed", "(J)V"⟩ : MethodName)) (z := (⟨"com/example/locator/locator/cli/WarmUp", "passed", "(J)V"⟩ : MethodName)) hown (mvT hZ (hw _ (List.mem_of_getElem? (i := 24) rfl))) (mvT hZ (hw _ (List.mem_of_getElem? (i := 25) rfl))) (notFace_of_selects (args := #[]) (mvT hZ (hw _ (List.mem_of_getElem? (i := 27) rfl)))) (mvT hZ (hw _ (List.mem_of_getElem? (i := 27) rfl))) (mvT hZ (hw _ (List.mem_of_getElem? (i := 26) rfl))) (by decide) (backOf (W := 0) (rm4 l Z a0 hw [] bz1 (own_pick p3 (7 : Int32) lo hi) rc3 kq3 ww6 (7 : Int64) (8 : Int64) ee6 7 (own_need sr) T31.heap n0 (Nat.le_trans Z0 K_33.1) Ex_32 f1_31 f2_31 f3_31 f4_31 g_bz1 A31q g_rc3 ne_bz1_rc3 (by decide) (by decide) (by decide)) hZ (hw _ (List.mem_of_getElem? (i := 28) rfl)) (hw _ (List.mem_of_getElem? (i := 4) rfl)) (by decide) (by decide)) qz35a qz35c (g := (mkF m 165 #[.val (.long q1), .second, .val (.long q2), .second, .val (.int p3), .val (.int p4), .val (.long lo), .second, .val (.long hi), .second, .val (.int sr), .val (.ref bz1), .unset, .unset, .unset, .unset, .unset, .unset, .unset, .unset, .unset, .unset, .unset, .unset, .unset] [(.long (own_pick p3 (7 : Int32) lo hi)), (.ref bz1)])) rfl (by rw [hml]; rfl) (Steps.refl _) (argsL := [(.long (own_pick p3 (7 : Int32) lo hi))]) (rest := []) (lenOf own_pd10 rfl) rfl (by show 2 * 0 + _ ≤ _; exact Nat.le_of_eq rfl) (hb hby at_165) (fun _ _ => ⟨rfl, ez34, (by decide : 2 + 0 ≤ _), (by decide : 14 + 0 ≤ _)⟩)
  dsimp only [Pt.U, Pt.locs, Pt.cells, Pt.slots] at X35 lz35 yz35 zz35 st35 hQ35
  have X35 := own_reb X35 lz35 yz35 zz35
  have X35 : Stand p l e room_1 s m #[(.long q1), (.long q2), (.int p3), (.int p4)] below meth c T35 _ 2 14 := X35
  obtain ⟨hvq35, Nq35, Kq35, f1_35, f2_35, f3_35, f4_35, A35q⟩ := hQ35
  rw [hvq35] at st35
  have N35 := Fr.app N34 Nq35
  have Ex_36 := Ex_32.keep Kq35
  have K_37 : Keep h0 T35.heap [] := K_33.trans Kq35 (allS (Or.inr sz_bz1) (allS (Or.inr sz_rc3) all0))
  obtain ⟨ww7, hww7⟩ : ∃ z, z = own_setw ww6 7 (own_pick p3 (7 : Int32) lo hi) := ⟨_, rfl⟩
  rw [← hww7] at A35q
  obtain ⟨ee7, hee7⟩ : ∃ z, z = (ee6 + (own_pick p3 (7 : Int32) lo hi)) := ⟨_, rfl⟩
  rw [← hee7] at f4_35
  refine OGo.tr st35 ?_
  show OGo p.tables e below _ (T35.setTop (mkF m 168 #[.val (.long q1), .second, .val (.long q2), .second, .val (.int p3), .val (.int p4), .val (.long lo), .second, .val (.long hi), .second, .val (.int sr), .val (.ref bz1), .unset, .unset, .unset, .unset, .unset, .unset, .unset, .unset, .unset, .unset, .unset, .unset, .unset] []))
  refine OGo.st (fun _ k_ => XS.aload X35.here hx rfl (hb hby at_168) rfl rfl k_) ?_
  show OGo p.tables e below _ (T35.setTop (mkF m 170 #[.val (.long q1), .second, .val (.long q2), .second, .val (.int p3), .val (.int p4), .val (.long lo), .second, .val (.long hi), .second, .val (.int sr), .val (.ref bz1), .unset, .unset, .unset, .unset, .unset, .unset, .unset, .unset, .unset, .unset, .unset, .unset, .unset] [(.ref bz1)]))
  refine OGo.st (fun _ k_ => XS.iload X35.here hx rfl (hb hby at_170) rfl k_) ?_
  show OGo p.tables e below _ (T35.setTop (mkF m 172 #[.val (.long q1), .second, .val (.long q2), .second, .val (.int p3), .val (.int p4), .val (.long lo), .second, .val (.long hi), .second, .val (.int sr), .val (.ref bz1), .unset, .unset, .unset, .unset, .unset, .unset, .unset, .unset, .unset, .unset, .unset, .unset, .unset] [(.int p3), (.ref bz1)]))
  refine OGo.st (fun _ k_ => XS.bipush X35.here hx rfl (hb hby at_172) k_) ?_
  show OGo p.tables e below _ (T35.setTop (mkF m 174 #[.val (.long q1), .second, .val (.long q2), .second, .val (.int p3), .val (.int p4), .val (.long lo), .second, .val (.long hi), .second, .val (.int sr), .val (.ref bz1), .unset, .unset, .unset, .unset, .unset, .unset, .unset, .unset, .unset, .unset, .unset, .unset, .unset] [(.int (8 : Int32)), (.int p3), (.ref bz1)]))
  refine OGo.st (fun _ k_ => XS.lload X35.here hx rfl (hb hby at_174) rfl k_) ?_
  show OGo p.tables e below _ (T35.setTop (mkF m 176 #[.val (.long q1), .second, .val (.long q2), .second, .val (.int p3), .val (.int p4), .val (.long lo), .second, .val (.long hi), .second, .val (.int sr), .val (.ref bz1), .unset, .unset, .unset, .unset, .unset, .unset, .unset, .unset, .unset, .unset, .unset, .unset, .unset] [(.long lo), (.int (8 : Int32)), (.int p3), (.ref bz1)]))
  refine OGo.st (fun _ k_ => XS.lload X35.here hx rfl (hb hby at_176) rfl k_) ?_
  show OGo p.tables e below _ (T35.setTop (mkF m 178 #[.val (.long q1), .second, .val (.long q2), .second, .val (.int p3), .val (.int p4), .val (.long lo), .second, .val (.long hi), .second, .val (.int sr), .val (.ref bz1), .unset, .unset, .unset, .unset, .unset, .unset, .unset, .unset, .unset, .unset, .unset, .unset, .unset] [(.long hi), (.long lo), (.int (8 : Int32)), (.int p3), (.ref bz1)]))
  obtain ⟨_, _, ⟨T38, Lz38, kz38, nz38⟩, -, X38, ⟨Lc38, hQ38, lz38, yz38, zz38⟩, st38⟩ := Jvm.LawKit.callS X35 hx (y := (⟨"com/example/locator/locator/cli/WarmUpPassedPinLaw", "pick", "(IIJJ)J"⟩ : MethodName)) hown (mvT hZ (hw _ (List.mem_of_getElem? (i := 17) rfl))) (mvT hZ (hw _ (List.mem_of_getElem? (i := 18) rfl))) (mvT hZ (hw _ (List.mem_of_getElem? (i := 19) rfl))) (mvT hZ (hw _ (List.mem_of_getElem? (i := 20) rfl))) (by decide) (backOf (W := 1) (rm3 l Z a0 hw [] p3 (8 : Int32) lo hi T35.heap n0 (Nat.le_trans Z0 K_37.1) ) hZ (hw _ (List.mem_of_getElem? (i := 20) rfl)) (hw _ (List.mem_of_getElem? (i := 19) rfl)) (by decide) (by decide)) (g := (mkF m 178 #[.val (.long q1), .second, .val (.long q2), .second, .val (.int p3), .val (.int p4), .val (.long lo), .second, .val (.long hi), .second, .val (.int sr), .val (.ref bz1), .unset, .unset, .unset, .unset, .unset, .unset, .unset, .unset, .unset, .unset, .unset, .unset, .unset] [(.long hi), (.long lo), (.int (8 : Int32)), (.int p3), (.ref bz1)])) rfl (by rw [hml]; rfl) (argsL := [(.int p3), (.int (8 : Int32)), (.long lo), (.long hi)]) (rest := [(.ref bz1)]) (lenOf own_pd9 rfl) rfl (by show 2 * 0 + _ ≤ _; exact Nat.le_of_eq rfl) (hb hby at_178) (fun _ _ => ⟨rfl, rfl, (by decide : 2 + 0 ≤ _), (by decide : 14 + 0 ≤ _)⟩)
  dsimp only [Pt.U, Pt.locs, Pt.cells, Pt.slots] at X38 lz38 yz38 zz38 st38 hQ38
  have X38 := own_reb X38 lz38 yz38 zz38
  have X38 : Stand p l e room_1 s m #[(.long q1), (.long q2), (.int p3), (.int p4)] below meth c T38 _ 2 14 := X38
  obtain ⟨hvq38, Nq38, ez38⟩ := hQ38
  rw [hvq38] at st38
  have N38 := Fr.app N35 Nq38
  refine OGo.st st38 ?_
  show OGo p.tables e below _ (T38.setTop (mkF m 181 #[.val (.long q1), .second, .val (.long q2), .second, .val (.int p3), .val (.int p4), .val (.long lo), .second, .val (.long hi), .second, .val (.int sr), .val (.ref bz1), .unset, .unset, .unset, .unset, .unset, .unset, .unset, .unset, .unset, .unset, .unset, .unset, .unset] [(.long (own_pick p3 (8 : Int32) lo hi)), (.ref bz1)]))
  obtain ⟨cq39, kqz39, qz39a, qz39b, qz39c⟩ := isOf hZ ez38 Ex_36
  obtain ⟨_, _, ⟨T39, Lz39, kz39, nz39⟩, -, X39, ⟨Lc39, hQ39, lz39, yz39, zz39⟩, st39⟩ := X38.virtualBack hx (y := (⟨"com/example/locator/locator/cli/WarmUp", "passed", "(J)V"⟩ : MethodName)) (z := (⟨"com/example/locator/locator/cli/WarmUp", "passed", "(J)V"⟩ : MethodName)) hown (mvT hZ (hw _ (List.mem_of_getElem? (i := 24) rfl))) (mvT hZ (hw _ (List.mem_of_getElem? (i := 25) rfl))) (notFace_of_selects (args := #[]) (mvT hZ (hw _ (List.mem_of_getElem? (i := 27) rfl)))) (mvT hZ (hw _ (List.mem_of_getElem? (i := 27) rfl))) (mvT hZ (hw _ (List.mem_of_getElem? (i := 26) rfl))) (by decide) (backOf (W := 0) (rm4 l Z a0 hw [] bz1 (own_pick p3 (8 : Int32) lo hi) rc3 kq3 ww7 (8 : Int64) (9 : Int64) ee7 8 (own_need sr) T35.heap n0 (Nat.le_trans Z0 K_37.1) Ex_36 f1_35 f2_35 f3_35 f4_35 g_bz1 A35q g_rc3 ne_bz1_rc3 (by decide) (by decide) (by decide)) hZ (hw _ (List.mem_of_getElem? (i := 28) rfl)) (hw _ (List.mem_of_getElem? (i := 4) rfl)) (by decide) (by decide)) qz39a qz39c (g := (mkF m 181 #[.val (.long q1), .second, .val (.long q2), .second, .val (.int p3), .val (.int p4), .val (.long lo), .second, .val (.long hi), .second, .val (.int sr), .val (.ref bz1), .unset, .unset, .unset, .unset, .unset, .unset, .unset, .unset, .unset, .unset, .unset, .unset, .unset] [(.long (own_pick p3 (8 : Int32) lo hi)), (.ref bz1)])) rfl (by rw [hml]; rfl) (Steps.refl _) (argsL := [(.long (own_pick p3 (8 : Int32) lo hi))]) (rest := []) (lenOf own_pd10 rfl) rfl (by show 2 * 0 + _ ≤ _; exact Nat.le_of_eq rfl) (hb hby at_181) (fun _ _ => ⟨rfl, ez38, (by decide : 2 + 0 ≤ _), (by decide : 14 + 0 ≤ _)⟩)
  dsimp only [Pt.U, Pt.locs, Pt.cells, Pt.slots] at X39 lz39 yz39 zz39 st39 hQ39
  have X39 := own_reb X39 lz39 yz39 zz39
  have X39 : Stand p l e room_1 s m #[(.long q1), (.long q2), (.int p3), (.int p4)] below meth c T39 _ 2 14 := X39
  obtain ⟨hvq39, Nq39, Kq39, f1_39, f2_39, f3_39, f4_39, A39q⟩ := hQ39
  rw [hvq39] at st39
  have N39 := Fr.app N38 Nq39
  have Ex_40 := Ex_36.keep Kq39
  have K_41 : Keep h0 T39.heap [] := K_37.trans Kq39 (allS (Or.inr sz_bz1) (allS (Or.inr sz_rc3) all0))
  obtain ⟨ww8, hww8⟩ : ∃ z, z = own_setw ww7 8 (own_pick p3 (8 : Int32) lo hi) := ⟨_, rfl⟩
  rw [← hww8] at A39q
  obtain ⟨ee8, hee8⟩ : ∃ z, z = (ee7 + (own_pick p3 (8 : Int32) lo hi)) := ⟨_, rfl⟩
  rw [← hee8] at f4_39
  refine OGo.tr st39 ?_
  show OGo p.tables e below _ (T39.setTop (mkF m 184 #[.val (.long q1), .second, .val (.long q2), .second, .val (.int p3), .val (.int p4), .val (.long lo), .second, .val (.long hi), .second, .val (.int sr), .val (.ref bz1), .unset, .unset, .unset, .unset, .unset, .unset, .unset, .unset, .unset, .unset, .unset, .unset, .unset] []))
  refine OGo.st (fun _ k_ => XS.aload X39.here hx rfl (hb hby at_184) rfl rfl k_) ?_
  show OGo p.tables e below _ (T39.setTop (mkF m 186 #[.val (.long q1), .second, .val (.long q2), .second, .val (.int p3), .val (.int p4), .val (.long lo), .second, .val (.long hi), .second, .val (.int sr), .val (.ref bz1), .unset, .unset, .unset, .unset, .unset, .unset, .unset, .unset, .unset, .unset, .unset, .unset, .unset] [(.ref bz1)]))
  refine OGo.st (fun _ k_ => XS.iload X39.here hx rfl (hb hby at_186) rfl k_) ?_
  show OGo p.tables e below _ (T39.setTop (mkF m 188 #[.val (.long q1), .second, .val (.long q2), .second, .val (.int p3), .val (.int p4), .val (.long lo), .second, .val (.long hi), .second, .val (.int sr), .val (.ref bz1), .unset, .unset, .unset, .unset, .unset, .unset, .unset, .unset, .unset, .unset, .unset, .unset, .unset] [(.int p3), (.ref bz1)]))
  refine OGo.st (fun _ k_ => XS.bipush X39.here hx rfl (hb hby at_188) k_) ?_
  show OGo p.tables e below _ (T39.setTop (mkF m 190 #[.val (.long q1), .second, .val (.long q2), .second, .val (.int p3), .val (.int p4), .val (.long lo), .second, .val (.long hi), .second, .val (.int sr), .val (.ref bz1), .unset, .unset, .unset, .unset, .unset, .unset, .unset, .unset, .unset, .unset, .unset, .unset, .unset] [(.int (9 : Int32)), (.int p3), (.ref bz1)]))
  refine OGo.st (fun _ k_ => XS.lload X39.here hx rfl (hb hby at_190) rfl k_) ?_
  show OGo p.tables e below _ (T39.setTop (mkF m 192 #[.val (.long q1), .second, .val (.long q2), .second, .val (.int p3), .val (.int p4), .val (.long lo), .second, .val (.long hi), .second, .val (.int sr), .val (.ref bz1), .unset, .unset, .unset, .unset, .unset, .unset, .unset, .unset, .unset, .unset, .unset, .unset, .unset] [(.long lo), (.int (9 : Int32)), (.int p3), (.ref bz1)]))
  refine OGo.st (fun _ k_ => XS.lload X39.here hx rfl (hb hby at_192) rfl k_) ?_
  show OGo p.tables e below _ (T39.setTop (mkF m 194 #[.val (.long q1), .second, .val (.long q2), .second, .val (.int p3), .val (.int p4), .val (.long lo), .second, .val (.long hi), .second, .val (.int sr), .val (.ref bz1), .unset, .unset, .unset, .unset, .unset, .unset, .unset, .unset, .unset, .unset, .unset, .unset, .unset] [(.long hi), (.long lo), (.int (9 : Int32)), (.int p3), (.ref bz1)]))
  obtain ⟨_, _, ⟨T42, Lz42, kz42, nz42⟩, -, X42, ⟨Lc42, hQ42, lz42, yz42, zz42⟩, st42⟩ := Jvm.LawKit.callS X39 hx (y := (⟨"com/example/locator/locator/cli/WarmUpPassedPinLaw", "pick", "(IIJJ)J"⟩ : MethodName)) hown (mvT hZ (hw _ (List.mem_of_getElem? (i := 17) rfl))) (mvT hZ (hw _ (List.mem_of_getElem? (i := 18) rfl))) (mvT hZ (hw _ (List.mem_of_getElem? (i := 19) rfl))) (mvT hZ (hw _ (List.mem_of_getElem? (i := 20) rfl))) (by decide) (backOf (W := 1) (rm3 l Z a0 hw [] p3 (9 : Int32) lo hi T39.heap n0 (Nat.le_trans Z0 K_41.1) ) hZ (hw _ (List.mem_of_getElem? (i := 20) rfl)) (hw _ (List.mem_of_getElem? (i := 19) rfl)) (by decide) (by decide)) (g := (mkF m 194 #[.val (.long q1), .second, .val (.long q2), .second, .val (.int p3), .val (.int p4), .val (.long lo), .second, .val (.long hi), .second, .val (.int sr), .val (.ref bz1), .unset, .unset, .unset, .unset, .unset, .unset, .unset, .unset, .unset, .unset, .unset, .unset, .unset] [(.long hi), (.long lo), (.int (9 : Int32)), (.int p3), (.ref bz1)])) rfl (by rw [hml]; rfl) (argsL := [(.int p3), (.int (9 : Int32)), (.long lo), (.long hi)]) (rest := [(.ref bz1)]) (lenOf own_pd9 rfl) rfl (by show 2 * 0 + _ ≤ _; exact Nat.le_of_eq rfl) (hb hby at_194) (fun _ _ => ⟨rfl, rfl, (by decide : 2 + 0 ≤ _), (by decide : 14 + 0 ≤ _)⟩)
  dsimp only [Pt.U, Pt.locs, Pt.cells, Pt.slots] at X42 lz42 yz42 zz42 st42 hQ42
  have X42 := own_reb X42 lz42 yz42 zz42
  have X42 : Stand p l e room_1 s m #[(.long q1), (.long q2), (.int p3), (.int p4)] below meth c T42 _ 2 14 := X42
  obtain ⟨hvq42, Nq42, ez42⟩ := hQ42
  rw [hvq42] at st42
  have N42 := Fr.app N39 Nq42
  refine OGo.st st42 ?_
  show OGo p.tables e below _ (T42.setTop (mkF m 197 #[.val (.long q1), .second, .val (.long q2), .second, .val (.int p3), .val (.int p4), .val (.long lo), .second, .val (.long hi), .second, .val (.int sr), .val (.ref bz1), .unset, .unset, .unset, .unset, .unset, .unset, .unset, .unset, .unset, .unset, .unset, .unset, .unset] [(.long (own_pick p3 (9 : Int32) lo hi)), (.ref bz1)]))
  obtain ⟨cq43, kqz43, qz43a, qz43b, qz43c⟩ := isOf hZ ez42 Ex_40
  obtain ⟨_, _, ⟨T43, Lz43, kz43, nz43⟩, -, X43, ⟨Lc43, hQ43, lz43, yz43, zz43⟩, st43⟩ := X42.virtualBack hx (y := (⟨"com/example/locator/locator/cli/WarmUp", "passed", "(J)V"⟩ : MethodName)) (z := (⟨"com/example/locator/locator/cli/WarmUp", "passed", "(J)V"⟩ : MethodName)) hown (mvT hZ (hw _ (List.mem_of_getElem? (i := 24) rfl))) (mvT hZ (hw _ (List.mem_of_getElem? (i := 25) rfl))) (notFace_of_selects (args := #[]) (mvT hZ (hw _ (List.mem_of_getElem? (i := 27) rfl)))) (mvT hZ (hw _ (List.mem_of_getElem? (i := 27) rfl))) (mvT hZ (hw _ (List.mem_of_getElem? (i := 26) rfl))) (by decide) (backOf (W := 0) (rm4 l Z a0 hw [] bz1 (own_pick p3 (9 : Int32) lo hi) rc3 kq3 ww8 (9 : Int64) (10 : Int64) ee8 9 (own_need sr) T39.heap n0 (Nat.le_trans Z0 K_41.1) Ex_40 f1_39 f2_39 f3_39 f4_39 g_bz1 A39q g_rc3 ne_bz1_rc3 (by decide) (by decide) (by decide)) hZ (hw _ (List.mem_of_getElem? (i := 28) rfl)) (hw _ (List.mem_of_getElem? (i := 4) rfl)) (by decide) (by decide)) qz43a qz43c (g := (mkF m 197 #[.val (.long q1), .second, .val (.long q2), .second, .val (.int p3), .val (.int p4), .val (.long lo), .second, .val (.long hi), .second, .val (.int sr), .val (.ref bz1), .unset, .unset, .unset, .unset, .unset, .unset, .unset, .unset, .unset, .unset, .unset, .unset, .unset] [(.long (own_pick p3 (9 : Int32) lo hi)), (.ref bz1)])) rfl (by rw [hml]; rfl) (Steps.refl _) (argsL := [(.long (own_pick p3 (9 : Int32) lo hi))]) (rest := []) (lenOf own_pd10 rfl) rfl (by show 2 * 0 + _ ≤ _; exact Nat.le_of_eq rfl) (hb hby at_197) (fun _ _ => ⟨rfl, ez42, (by decide : 2 + 0 ≤ _), (by decide : 14 + 0 ≤ _)⟩)
  dsimp only [Pt.U, Pt.locs, Pt.cells, Pt.slots] at X43 lz43 yz43 zz43 st43 hQ43
  have X43 := own_reb X43 lz43 yz43 zz43
  have X43 : Stand p l e room_1 s m #[(.long q1), (.long q2), (.int p3), (.int p4)] below meth c T43 _ 2 14 := X43
  obtain ⟨hvq43, Nq43, Kq43, f1_43, f2_43, f3_43, f4_43, A43q⟩ := hQ43
  rw [hvq43] at st43
  have N43 := Fr.app N42 Nq43
  have Ex_44 := Ex_40.keep Kq43
  have K_45 : Keep h0 T43.heap [] := K_41.trans Kq43 (allS (Or.inr sz_bz1) (allS (Or.inr sz_rc3) all0))
  obtain ⟨ww9, hww9⟩ : ∃ z, z = own_setw ww8 9 (own_pick p3 (9 : Int32) lo hi) := ⟨_, rfl⟩
  rw [← hww9] at A43q
  obtain ⟨ee9, hee9⟩ : ∃ z, z = (ee8 + (own_pick p3 (9 : Int32) lo hi)) := ⟨_, rfl⟩
  rw [← hee9] at f4_43
  refine OGo.tr st43 ?_
  have Af_46 : Arf Z T43.heap rc3 kq3 .long 10 (own_L (own_W p3 lo hi)) := A43q.congr (fun i hi_ => by rw [hww9, hww8, hww7, hww6, hww5, hww4, hww3, hww2, hww1, hww0]; exact own_W10 (fun k => own_pick p3 k lo hi) _ i hi_)
  show OGo p.tables e below _ (T43.setTop (mkF m 200 #[.val (.long q1), .second, .val (.long q2), .second, .val (.int p3), .val (.int p4), .val (.long lo), .second, .val (.long hi), .second, .val (.int sr), .val (.ref bz1), .unset, .unset, .unset, .unset, .unset, .unset, .unset, .unset, .unset, .unset, .unset, .unset, .unset] []))
  refine OGo.st (fun _ k_ => XS.iload X43.here hx rfl (hb hby at_200) rfl k_) ?_
  show OGo p.tables e below _ (T43.setTop (mkF m 202 #[.val (.long q1), .second, .val (.long q2), .second, .val (.int p3), .val (.int p4), .val (.long lo), .second, .val (.long hi), .second, .val (.int sr), .val (.ref bz1), .unset, .unset, .unset, .unset, .unset, .unset, .unset, .unset, .unset, .unset, .unset, .unset, .unset] [(.int p3)]))
  refine OGo.st (fun _ k_ => XS.iconst X43.here hx rfl (hb hby at_202) k_) ?_
  show OGo p.tables e below _ (T43.setTop (mkF m 203 #[.val (.long q1), .second, .val (.long q2), .second, .val (.int p3), .val (.int p4), .val (.long lo), .second, .val (.long hi), .second, .val (.int sr), .val (.ref bz1), .unset, .unset, .unset, .unset, .unset, .unset, .unset, .unset, .unset, .unset, .unset, .unset, .unset] [(.int (0 : Int32)), (.int p3)]))
  obtain ⟨_, _, ⟨T47, Lz47, kz47, nz47⟩, -, X47, ⟨Lc47, hQ47, lz47, yz47, zz47⟩, st47⟩ := Jvm.LawKit.callS X43 hx (y := (⟨"com/example/locator/locator/cli/WarmUpPassedPinLaw", "bit", "(II)I"⟩ : MethodName)) hown (mvT hZ (hw _ (List.mem_of_getElem? (i := 21) rfl))) (mvT hZ (hw _ (List.mem_of_getElem? (i := 22) rfl))) (mvT hZ (hw _ (List.mem_of_getElem? (i := 19) rfl))) (mvT hZ (hw _ (List.mem_of_getElem? (i := 23) rfl))) (by decide) (backOf (W := 0) (rm2 l Z a0 hw [] p3 (0 : Int32) T43.heap n0 (Nat.le_trans Z0 K_45.1) ) hZ (hw _ (List.mem_of_getElem? (i := 23) rfl)) (hw _ (List.mem_of_getElem? (i := 19) rfl)) (by decide) (by decide)) (g := (mkF m 203 #[.val (.long q1), .second, .val (.long q2), .second, .val (.int p3), .val (.int p4), .val (.long lo), .second, .val (.long hi), .second, .val (.int sr), .val (.ref bz1), .unset, .unset, .unset, .unset, .unset, .unset, .unset, .unset, .unset, .unset, .unset, .unset, .unset] [(.int (0 : Int32)), (.int p3)])) rfl (by rw [hml]; rfl) (argsL := [(.int p3), (.int (0 : Int32))]) (rest := []) (lenOf own_pd0 rfl) rfl (by show 2 * 0 + _ ≤ _; exact Nat.le_of_eq rfl) (hb hby at_203) (fun _ _ => ⟨rfl, rfl, (by decide : 2 + 0 ≤ _), (by decide : 14 + 0 ≤ _)⟩)
  dsimp only [Pt.U, Pt.locs, Pt.cells, Pt.slots] at X47 lz47 yz47 zz47 st47 hQ47
  have X47 := own_reb X47 lz47 yz47 zz47
  have X47 : Stand p l e room_1 s m #[(.long q1), (.long q2), (.int p3), (.int p4)] below meth c T47 _ 2 14 := X47
  obtain ⟨hvq47, Nq47, ez47⟩ := hQ47
  rw [hvq47] at st47
  have N47 := Fr.app N43 Nq47
  refine OGo.st st47 ?_
  show OGo p.tables e below _ (T47.setTop (mkF m 206 #[.val (.long q1), .second, .val (.long q2), .second, .val (.int p3), .val (.int p4), .val (.long lo), .second, .val (.long hi), .second, .val (.int sr), .val (.ref bz1), .unset, .unset, .unset, .unset, .unset, .unset, .unset, .unset, .unset, .unset, .unset, .unset, .unset] [(.int (own_bit p3 (0 : Int32)))]))
  refine OGo.st (fun _ k_ => XS.iload X47.here hx rfl (hb hby at_206) rfl k_) ?_
  show OGo p.tables e below _ (T47.setTop (mkF m 208 #[.val (.long q1), .second, .val (.long q2), .second, .val (.int p3), .val (.int p4), .val (.long lo), .second, .val (.long hi), .second, .val (.int sr), .val (.ref bz1), .unset, .unset, .unset, .unset, .unset, .unset, .unset, .unset, .unset, .unset, .unset, .unset, .unset] [(.int p3), (.int (own_bit p3 (0 : Int32)))]))
  refine OGo.st (fun _ k_ => XS.iconst X47.here hx rfl (hb hby at_208) k_) ?_
  show OGo p.tables e below _ (T47.setTop (mkF m 209 #[.val (.long q1), .second, .val (.long q2), .second, .val (.int p3), .val (.int p4), .val (.long lo), .second, .val (.long hi), .second, .val (.int sr), .val (.ref bz1), .unset, .unset, .unset, .unset, .unset, .unset, .unset, .unset, .unset, .unset, .unset, .unset, .unset] [(.int (1 : Int32)), (.int p3), (.int (own_bit p3 (0 : Int32)))]))
  obtain ⟨_, _, ⟨T48, Lz48, kz48, nz48⟩, -, X48, ⟨Lc48, hQ48, lz48, yz48, zz48⟩, st48⟩ := Jvm.LawKit.callS X47 hx (y := (⟨"com/example/locator/locator/cli/WarmUpPassedPinLaw", "bit", "(II)I"⟩ : MethodName)) hown (mvT hZ (hw _ (List.mem_of_getElem? (i := 21) rfl))) (mvT hZ (hw _ (List.mem_of_getElem? (i := 22) rfl))) (mvT hZ (hw _ (List.mem_of_getElem? (i := 19) rfl))) (mvT hZ (hw _ (List.mem_of_getElem? (i := 23) rfl))) (by decide) (backOf (W := 1) (rm2 l Z a0 hw [] p3 (1 : Int32) T43.heap n0 (Nat.le_trans Z0 K_45.1) ) hZ (hw _ (List.mem_of_getElem? (i := 23) rfl)) (hw _ (List.mem_of_getElem? (i := 19) rfl)) (by decide) (by decide)) (g := (mkF m 209 #[.val (.long q1), .second, .val (.long q2), .second, .val (.int p3), .val (.int p4), .val (.long lo), .second, .val (.long hi), .second, .val (.int sr), .val (.ref bz1), .unset, .unset, .unset, .unset, .unset, .unset, .unset, .unset, .unset, .unset, .unset, .unset, .unset] [(.int (1 : Int32)), (.int p3), (.int (own_bit p3 (0 : Int32)))])) rfl (by rw [hml]; rfl) (argsL := [(.int p3), (.int (1 : Int32))]) (rest := [(.int (own_bit p3 (0 : Int32)))]) (lenOf own_pd0 rfl) rfl (by show 2 * 0 + _ ≤ _; exact Nat.le_of_eq rfl) (hb hby at_209) (fun _ _ => ⟨rfl, ez47, (by decide : 2 + 0 ≤ _), (by decide : 14 + 0 ≤ _)⟩)
  dsimp only [Pt.U, Pt.locs, Pt.cells, Pt.slots] at X48 lz48 yz48 zz48 st48 hQ48
  have X48 := own_reb X48 lz48 yz48 zz48
  have X48 : Stand p l e room_1 s m #[(.long q1), (.long q2), (.int p3), (.int p4)] below meth c T48 _ 2 14 := X48
  obtain ⟨hvq48, Nq48, ez48⟩ := hQ48
  rw [hvq48] at st48
  have N48 := Fr.app N47 Nq48
  refine OGo.st st48 ?_
  show OGo p.tables e below _ (T48.setTop (mkF m 212 #[.val (.long q1), .second, .val (.long q2), .second, .val (.int p3), .val (.int p4), .val (.long lo), .second, .val (.long hi), .second, .val (.int sr), .val (.ref bz1), .unset, .unset, .unset, .unset, .unset, .unset, .unset, .unset, .unset, .unset, .unset, .unset, .unset] [(.int (own_bit p3 (1 : Int32))), (.int (own_bit p3 (0 : Int32)))]))
  refine OGo.st (fun _ k_ => XS.iadd X48.here hx rfl (hb hby at_212) rfl k_) ?_
  show OGo p.tables e below _ (T48.setTop (mkF m 213 #[.val (.long q1), .second, .val (.long q2), .second, .val (.int p3), .val (.int p4), .val (.long lo), .second, .val (.long hi), .second, .val (.int sr), .val (.ref bz1), .unset, .unset, .unset, .unset, .unset, .unset, .unset, .unset, .unset, .unset, .unset, .unset, .unset] [(.int ((own_bit p3 (0 : Int32)) + (own_bit p3 (1 : Int32))))]))
  refine OGo.st (fun _ k_ => XS.iload X48.here hx rfl (hb hby at_213) rfl k_) ?_
  show OGo p.tables e below _ (T48.setTop (mkF m 215 #[.val (.long q1), .second, .val (.long q2), .second, .val (.int p3), .val (.int p4), .val (.long lo), .second, .val (.long hi), .second, .val (.int sr), .val (.ref bz1), .unset, .unset, .unset, .unset, .unset, .unset, .unset, .unset, .unset, .unset, .unset, .unset, .unset] [(.int p3), (.int ((own_bit p3 (0 : Int32)) + (own_bit p3 (1 : Int32))))]))
  refine OGo.st (fun _ k_ => XS.iconst X48.here hx rfl (hb hby at_215) k_) ?_
  show OGo p.tables e below _ (T48.setTop (mkF m 216 #[.val (.long q1), .second, .val (.long q2), .second, .val (.int p3), .val (.int p4), .val (.long lo), .second, .val (.long hi), .second, .val (.int sr), .val (.ref bz1), .unset, .unset, .unset, .unset, .unset, .unset, .unset, .unset, .unset, .unset, .unset, .unset, .unset] [(.int (2 : Int32)), (.int p3), (.int ((own_bit p3 (0 : Int32)) + (own_bit p3 (1 : Int32))))]))
  obtain ⟨_, _, ⟨T49, Lz49, kz49, nz49⟩, -, X49, ⟨Lc49, hQ49, lz49, yz49, zz49⟩, st49⟩ := Jvm.LawKit.callS X48 hx (y := (⟨"com/example/locator/locator/cli/WarmUpPassedPinLaw", "bit", "(II)I"⟩ : MethodName)) hown (mvT hZ (hw _ (List.mem_of_getElem? (i := 21) rfl))) (mvT hZ (hw _ (List.mem_of_getElem? (i := 22) rfl))) (mvT hZ (hw _ (List.mem_of_getElem? (i := 19) rfl))) (mvT hZ (hw _ (List.mem_of_getElem? (i := 23) rfl))) (by decide) (backOf (W := 1) (rm2 l Z a0 hw [] p3 (2 : Int32) T43.heap n0 (Nat.le_trans Z0 K_45.1) ) hZ (hw _ (List.mem_of_getElem? (i := 23) rfl)) (hw _ (List.mem_of_getElem? (i := 19) rfl)) (by decide) (by decide)) (g := (mkF m 216 #[.val (.long q1), .second, .val (.long q2), .second, .val (.int p3), .val (.int p4), .val (.long lo), .second, .val (.long hi), .second, .val (.int sr), .val (.ref bz1), .unset, .unset, .unset, .unset, .unset, .unset, .unset, .unset, .unset, .unset, .unset, .unset, .unset] [(.int (2 : Int32)), (.int p3), (.int ((own_bit p3 (0 : Int32)) + (own_bit p3 (1 : Int32))))])) rfl (by rw [hml]; rfl) (argsL := [(.int p3), (.int (2 : Int32))]) (rest := [(.int ((own_bit p3 (0 : Int32)) + (own_bit p3 (1 : Int32))))]) (lenOf own_pd0 rfl) rfl (by show 2 * 0 + _ ≤ _; exact Nat.le_of_eq rfl) (hb hby at_216) (fun _ _ => ⟨rfl, ez48, (by decide : 2 + 0 ≤ _), (by decide : 14 + 0 ≤ _)⟩)
  dsimp only [Pt.U, Pt.locs, Pt.cells, Pt.slots] at X49 lz49 yz49 zz49 st49 hQ49
  have X49 := own_reb X49 lz49 yz49 zz49
  have X49 : Stand p l e room_1 s m #[(.long q1), (.long q2), (.int p3), (.int p4)] below meth c T49 _ 2 14 := X49
  obtain ⟨hvq49, Nq49, ez49⟩ := hQ49
  rw [hvq49] at st49
  have N49 := Fr.app N48 Nq49
  refine OGo.st st49 ?_
  show OGo p.tables e below _ (T49.setTop (mkF m 219 #[.val (.long q1), .second, .val (.long q2), .second, .val (.int p3), .val (.int p4), .val (.long lo), .second, .val (.long hi), .second, .val (.int sr), .val (.ref bz1), .unset, .unset, .unset, .unset, .unset, .unset, .unset, .unset, .unset, .unset, .unset, .unset, .unset] [(.int (own_bit p3 (2 : Int32))), (.int ((own_bit p3 (0 : Int32)) + (own_bit p3 (1 : Int32))))]))
  refine OGo.st (fun _ k_ => XS.iadd X49.here hx rfl (hb hby at_219) rfl k_) ?_
  show OGo p.tables e below _ (T49.setTop (mkF m 220 #[.val (.long q1), .second, .val (.long q2), .second, .val (.int p3), .val (.int p4), .val (.long lo), .second, .val (.long hi), .second, .val (.int sr), .val (.ref bz1), .unset, .unset, .unset, .unset, .unset, .unset, .unset, .unset, .unset, .unset, .unset, .unset, .unset] [(.int (((own_bit p3 (0 : Int32)) + (own_bit p3 (1 : Int32))) + (own_bit p3 (2 : Int32))))]))
  refine OGo.st (fun _ k_ => XS.iload X49.here hx rfl (hb hby at_220) rfl k_) ?_
  show OGo p.tables e below _ (T49.setTop (mkF m 222 #[.val (.long q1), .second, .val (.long q2), .second, .val (.int p3), .val (.int p4), .val (.long lo), .second, .val (.long hi), .second, .val (.int sr), .val (.ref bz1), .unset, .unset, .unset, .unset, .unset, .unset, .unset, .unset, .unset, .unset, .unset, .unset, .unset] [(.int p3), (.int (((own_bit p3 (0 : Int32)) + (own_bit p3 (1 : Int32))) + (own_bit p3 (2 : Int32))))]))
  refine OGo.st (fun _ k_ => XS.iconst X49.here hx rfl (hb hby at_222) k_) ?_
  show OGo p.tables e below _ (T49.setTop (mkF m 223 #[.val (.long q1), .second, .val (.long q2), .second, .val (.int p3), .val (.int p4), .val (.long lo), .second, .val (.long hi), .second, .val (.int sr), .val (.ref bz1), .unset, .unset, .unset, .unset, .unset, .unset, .unset, .unset, .unset, .unset, .unset, .unset, .unset] [(.int (3 : Int32)), (.int p3), (.int (((own_bit p3 (0 : Int32)) + (own_bit p3 (1 : Int32))) + (own_bit p3 (2 : Int32))))]))
  obtain ⟨_, _, ⟨T50, Lz50, kz50, nz50⟩, -, X50, ⟨Lc50, hQ50, lz50, yz50, zz50⟩, st50⟩ := Jvm.LawKit.callS X49 hx (y := (⟨"com/example/locator/locator/cli/WarmUpPassedPinLaw", "bit", "(II)I"⟩ : MethodName)) hown (mvT hZ (hw _ (List.mem_of_getElem? (i := 21) rfl))) (mvT hZ (hw _ (List.mem_of_getElem? (i := 22) rfl))) (mvT hZ (hw _ (List.mem_of_getElem? (i := 19) rfl))) (mvT hZ (hw _ (List.mem_of_getElem? (i := 23) rfl))) (by decide) (backOf (W := 1) (rm2 l Z a0 hw [] p3 (3 : Int32) T43.heap n0 (Nat.le_trans Z0 K_45.1) ) hZ (hw _ (List.mem_of_getElem? (i := 23) rfl)) (hw _ (List.mem_of_getElem? (i := 19) rfl)) (by decide) (by decide)) (g := (mkF m 223 #[.val (.long q1), .second, .val (.long q2), .second, .val (.int p3), .val (.int p4), .val (.long lo), .second, .val (.long hi), .second, .val (.int sr), .val (.ref bz1), .unset, .unset, .unset, .unset, .unset, .unset, .unset, .unset, .unset, .unset, .unset, .unset, .unset] [(.int (3 : Int32)), (.int p3), (.int (((own_bit p3 (0 : Int32)) + (own_bit p3 (1 : Int32))) + (own_bit p3 (2 : Int32))))])) rfl (by rw [hml]; rfl) (argsL := [(.int p3), (.int (3 : Int32))]) (rest := [(.int (((own_bit p3 (0 : Int32)) + (own_bit p3 (1 : Int32))) + (own_bit p3 (2 : Int32))))]) (lenOf own_pd0 rfl) rfl (by show 2 * 0 + _ ≤ _; exact Nat.le_of_eq rfl) (hb hby at_223) (fun _ _ => ⟨rfl, ez49, (by decide : 2 + 0 ≤ _), (by decide : 14 + 0 ≤ _)⟩)
  dsimp only [Pt.U, Pt.locs, Pt.cells, Pt.slots] at X50 lz50 yz50 zz50 st50 hQ50
  have X50 := own_reb X50 lz50 yz50 zz50
  have X50 : Stand p l e room_1 s m #[(.long q1), (.long q2), (.int p3), (.int p4)] below meth c T50 _ 2 14 := X50
  obtain ⟨hvq50, Nq50, ez50⟩ := hQ50
  rw [hvq50] at st50
  have N50 := Fr.app N49 Nq50
  refine OGo.st st50 ?_
  show OGo p.tables e below _ (T50.setTop (mkF m 226 #[.val (.long q1), .second, .val (.long q2), .second, .val (.int p3), .val (.int p4), .val (.long lo), .second, .val (.long hi), .second, .val (.int sr), .val (.ref bz1), .unset, .unset, .unset, .unset, .unset, .unset, .unset, .unset, .unset, .unset, .unset, .unset, .unset] [(.int (own_bit p3 (3 : Int32))), (.int (((own_bit p3 (0 : Int32)) + (own_bit p3 (1 : Int32))) + (own_bit p3 (2 : Int32))))]))
  refine OGo.st (fun _ k_ => XS.iadd X50.here hx rfl (hb hby at_226) rfl k_) ?_
  show OGo p.tables e below _ (T50.setTop (mkF m 227 #[.val (.long q1), .second, .val (.long q2), .second, .val (.int p3), .val (.int p4), .val (.long lo), .second, .val (.long hi), .second, .val (.int sr), .val (.ref bz1), .unset, .unset, .unset, .unset, .unset, .unset, .unset, .unset, .unset, .unset, .unset, .unset, .unset] [(.int ((((own_bit p3 (0 : Int32)) + (own_bit p3 (1 : Int32))) + (own_bit p3 (2 : Int32))) + (own_bit p3 (3 : Int32))))]))
  refine OGo.st (fun _ k_ => XS.iload X50.here hx rfl (hb hby at_227) rfl k_) ?_
  show OGo p.tables e below _ (T50.setTop (mkF m 229 #[.val (.long q1), .second, .val (.long q2), .second, .val (.int p3), .val (.int p4), .val (.long lo), .second, .val (.long hi), .second, .val (.int sr), .val (.ref bz1), .unset, .unset, .unset, .unset, .unset, .unset, .unset, .unset, .unset, .unset, .unset, .unset, .unset] [(.int p3), (.int ((((own_bit p3 (0 : Int32)) + (own_bit p3 (1 : Int32))) + (own_bit p3 (2 : Int32))) + (own_bit p3 (3 : Int32))))]))
  refine OGo.st (fun _ k_ => XS.iconst X50.here hx rfl (hb hby at_229) k_) ?_
  show OGo p.tables e below _ (T50.setTop (mkF m 230 #[.val (.long q1), .second, .val (.long q2), .second, .val (.int p3), .val (.int p4), .val (.long lo), .second, .val (.long hi), .second, .val (.int sr), .val (.ref bz1), .unset, .unset, .unset, .unset, .unset, .unset, .unset, .unset, .unset, .unset, .unset, .unset, .unset] [(.int (4 : Int32)), (.int p3), (.int ((((own_bit p3 (0 : Int32)) + (own_bit p3 (1 : Int32))) + (own_bit p3 (2 : Int32))) + (own_bit p3 (3 : Int32))))]))
  obtain ⟨_, _, ⟨T51, Lz51, kz51, nz51⟩, -, X51, ⟨Lc51, hQ51, lz51, yz51, zz51⟩, st51⟩ := Jvm.LawKit.callS X50 hx (y := (⟨"com/example/locator/locator/cli/WarmUpPassedPinLaw", "bit", "(II)I"⟩ : MethodName)) hown (mvT hZ (hw _ (List.mem_of_getElem? (i := 21) rfl))) (mvT hZ (hw _ (List.mem_of_getElem? (i := 22) rfl))) (mvT hZ (hw _ (List.mem_of_getElem? (i := 19) rfl))) (mvT hZ (hw _ (List.mem_of_getElem? (i := 23) rfl))) (by decide) (backOf (W := 1) (rm2 l Z a0 hw [] p3 (4 : Int32) T43.heap n0 (Nat.le_trans Z0 K_45.1) ) hZ (hw _ (List.mem_of_getElem? (i := 23) rfl)) (hw _ (List.mem_of_getElem? (i := 19) rfl)) (by decide) (by decide)) (g := (mkF m 230 #[.val (.long q1), .second, .val (.long q2), .second, .val (.int p3), .val (.int p4), .val (.long lo), .second, .val (.long hi), .second, .val (.int sr), .val (.ref bz1), .unset, .unset, .unset, .unset, .unset, .unset, .unset, .unset, .unset, .unset, .unset, .unset, .unset] [(.int (4 : Int32)), (.int p3), (.int ((((own_bit p3 (0 : Int32)) + (own_bit p3 (1 : Int32))) + (own_bit p3 (2 : Int32))) + (own_bit p3 (3 : Int32))))])) rfl (by rw [hml]; rfl) (argsL := [(.int p3), (.int (4 : Int32))]) (rest := [(.int ((((own_bit p3 (0 : Int32)) + (own_bit p3 (1 : Int32))) + (own_bit p3 (2 : Int32))) + (own_bit p3 (3 : Int32))))]) (lenOf own_pd0 rfl) rfl (by show 2 * 0 + _ ≤ _; exact Nat.le_of_eq rfl) (hb hby at_230) (fun _ _ => ⟨rfl, ez50, (by decide : 2 + 0 ≤ _), (by decide : 14 + 0 ≤ _)⟩)
  dsimp only [Pt.U, Pt.locs, Pt.cells, Pt.slots] at X51 lz51 yz51 zz51 st51 hQ51
  have X51 := own_reb X51 lz51 yz51 zz51
  have X51 : Stand p l e room_1 s m #[(.long q1), (.long q2), (.int p3), (.int p4)] below meth c T51 _ 2 14 := X51
  obtain ⟨hvq51, Nq51, ez51⟩ := hQ51
  rw [hvq51] at st51
  have N51 := Fr.app N50 Nq51
  refine OGo.st st51 ?_
  show OGo p.tables e below _ (T51.setTop (mkF m 233 #[.val (.long q1), .second, .val (.long q2), .second, .val (.int p3), .val (.int p4), .val (.long lo), .second, .val (.long hi), .second, .val (.int sr), .val (.ref bz1), .unset, .unset, .unset, .unset, .unset, .unset, .unset, .unset, .unset, .unset, .unset, .unset, .unset] [(.int (own_bit p3 (4 : Int32))), (.int ((((own_bit p3 (0 : Int32)) + (own_bit p3 (1 : Int32))) + (own_bit p3 (2 : Int32))) + (own_bit p3 (3 : Int32))))]))
  refine OGo.st (fun _ k_ => XS.iadd X51.here hx rfl (hb hby at_233) rfl k_) ?_
  show OGo p.tables e below _ (T51.setTop (mkF m 234 #[.val (.long q1), .second, .val (.long q2), .second, .val (.int p3), .val (.int p4), .val (.long lo), .second, .val (.long hi), .second, .val (.int sr), .val (.ref bz1), .unset, .unset, .unset, .unset, .unset, .unset, .unset, .unset, .unset, .unset, .unset, .unset, .unset] [(.int (((((own_bit p3 (0 : Int32)) + (own_bit p3 (1 : Int32))) + (own_bit p3 (2 : Int32))) + (own_bit p3 (3 : Int32))) + (own_bit p3 (4 : Int32))))]))
  obtain ⟨hO, hhO⟩ : ∃ z : Int32, z = (((((own_bit p3 (0 : Int32)) + (own_bit p3 (1 : Int32))) + (own_bit p3 (2 : Int32))) + (own_bit p3 (3 : Int32))) + (own_bit p3 (4 : Int32))) := ⟨_, rfl⟩
  rw [← hhO]
  show OGo p.tables e below _ (T51.setTop (mkF m 234 #[.val (.long q1), .second, .val (.long q2), .second, .val (.int p3), .val (.int p4), .val (.long lo), .second, .val (.long hi), .second, .val (.int sr), .val (.ref bz1), .unset, .unset, .unset, .unset, .unset, .unset, .unset, .unset, .unset, .unset, .unset, .unset, .unset] [(.int hO)]))
  refine OGo.st (fun _ k_ => XS.istore X51.here hx rfl (hb hby at_234) rfl (l' := #[.val (.long q1), .second, .val (.long q2), .second, .val (.int p3), .val (.int p4), .val (.long lo), .second, .val (.long hi), .second, .val (.int sr), .val (.ref bz1), .val (.int hO), .unset, .unset, .unset, .unset, .unset, .unset, .unset, .unset, .unset, .unset, .unset, .unset]) rfl k_) ?_
  show OGo p.tables e below _ (T51.setTop (mkF m 236 #[.val (.long q1), .second, .val (.long q2), .second, .val (.int p3), .val (.int p4), .val (.long lo), .second, .val (.long hi), .second, .val (.int sr), .val (.ref bz1), .val (.int hO), .unset, .unset, .unset, .unset, .unset, .unset, .unset, .unset, .unset, .unset, .unset, .unset] []))
  refine OGo.st (fun _ k_ => XS.iload X51.here hx rfl (hb hby at_236) rfl k_) ?_
  show OGo p.tables e below _ (T51.setTop (mkF m 238 #[.val (.long q1), .second, .val (.long q2), .second, .val (.int p3), .val (.int p4), .val (.long lo), .second, .val (.long hi), .second, .val (.int sr), .val (.ref bz1), .val (.int hO), .unset, .unset, .unset, .unset, .unset, .unset, .unset, .unset, .unset, .unset, .unset, .unset] [(.int p3)]))
  refine OGo.st (fun _ k_ => XS.iconst X51.here hx rfl (hb hby at_238) k_) ?_
  show OGo p.tables e below _ (T51.setTop (mkF m 239 #[.val (.long q1), .second, .val (.long q2), .second, .val (.int p3), .val (.int p4), .val (.long lo), .second, .val (.long hi), .second, .val (.int sr), .val (.ref bz1), .val (.int hO), .unset, .unset, .unset, .unset, .unset, .unset, .unset, .unset, .unset, .unset, .unset, .unset] [(.int (5 : Int32)), (.int p3)]))
  obtain ⟨_, _, ⟨T52, Lz52, kz52, nz52⟩, -, X52, ⟨Lc52, hQ52, lz52, yz52, zz52⟩, st52⟩ := Jvm.LawKit.callS X51 hx (y := (⟨"com/example/locator/locator/cli/WarmUpPassedPinLaw", "bit", "(II)I"⟩ : MethodName)) hown (mvT hZ (hw _ (List.mem_of_getElem? (i := 21) rfl))) (mvT hZ (hw _ (List.mem_of_getElem? (i := 22) rfl))) (mvT hZ (hw _ (List.mem_of_getElem? (i := 19) rfl))) (mvT hZ (hw _ (List.mem_of_getElem? (i := 23) rfl))) (by decide) (backOf (W := 0) (rm2 l Z a0 hw [] p3 (5 : Int32) T43.heap n0 (Nat.le_trans Z0 K_45.1) ) hZ (hw _ (List.mem_of_getElem? (i := 23) rfl)) (hw _ (List.mem_of_getElem? (i := 19) rfl)) (by decide) (by decide)) (g := (mkF m 239 #[.val (.long q1), .second, .val (.long q2), .second, .val (.int p3), .val (.int p4), .val (.long lo), .second, .val (.long hi), .second, .val (.int sr), .val (.ref bz1), .val (.int hO), .unset, .unset, .unset, .unset, .unset, .unset, .unset, .unset, .unset, .unset, .unset, .unset] [(.int (5 : Int32)), (.int p3)])) rfl (by rw [hml]; rfl) (argsL := [(.int p3), (.int (5 : Int32))]) (rest := []) (lenOf own_pd0 rfl) rfl (by show 2 * 0 + _ ≤ _; exact Nat.le_of_eq rfl) (hb hby at_239) (fun _ _ => ⟨rfl, ez51, (by decide : 2 + 0 ≤ _), (by decide : 14 + 0 ≤ _)⟩)
  dsimp only [Pt.U, Pt.locs, Pt.cells, Pt.slots] at X52 lz52 yz52 zz52 st52 hQ52
  have X52 := own_reb X52 lz52 yz52 zz52
  have X52 : Stand p l e room_1 s m #[(.long q1), (.long q2), (.int p3), (.int p4)] below meth c T52 _ 2 14 := X52
  obtain ⟨hvq52, Nq52, ez52⟩ := hQ52
  rw [hvq52] at st52
  have N52 := Fr.app N51 Nq52
  refine OGo.st st52 ?_
  show OGo p.tables e below _ (T52.setTop (mkF m 242 #[.val (.long q1), .second, .val (.long q2), .second, .val (.int p3), .val (.int p4), .val (.long lo), .second, .val (.long hi), .second, .val (.int sr), .val (.ref bz1), .val (.int hO), .unset, .unset, .unset, .unset, .unset, .unset, .unset, .unset, .unset, .unset, .unset, .unset] [(.int (own_bit p3 (5 : Int32)))]))
  refine OGo.st (fun _ k_ => XS.iload X52.here hx rfl (hb hby at_242) rfl k_) ?_
  show OGo p.tables e below _ (T52.setTop (mkF m 244 #[.val (.long q1), .second, .val (.long q2), .second, .val (.int p3), .val (.int p4), .val (.long lo), .second, .val (.long hi), .second, .val (.int sr), .val (.ref bz1), .val (.int hO), .unset, .unset, .unset, .unset, .unset, .unset, .unset, .unset, .unset, .unset, .unset, .unset] [(.int p3), (.int (own_bit p3 (5 : Int32)))]))
  refine OGo.st (fun _ k_ => XS.bipush X52.here hx rfl (hb hby at_244) k_) ?_
  show OGo p.tables e below _ (T52.setTop (mkF m 246 #[.val (.long q1), .second, .val (.long q2), .second, .val (.int p3), .val (.int p4), .val (.long lo), .second, .val (.long hi), .second, .val (.int sr), .val (.ref bz1), .val (.int hO), .unset, .unset, .unset, .unset, .unset, .unset, .unset, .unset, .unset, .unset, .unset, .unset] [(.int (6 : Int32)), (.int p3), (.int (own_bit p3 (5 : Int32)))]))
  obtain ⟨_, _, ⟨T53, Lz53, kz53, nz53⟩, -, X53, ⟨Lc53, hQ53, lz53, yz53, zz53⟩, st53⟩ := Jvm.LawKit.callS X52 hx (y := (⟨"com/example/locator/locator/cli/WarmUpPassedPinLaw", "bit", "(II)I"⟩ : MethodName)) hown (mvT hZ (hw _ (List.mem_of_getElem? (i := 21) rfl))) (mvT hZ (hw _ (List.mem_of_getElem? (i := 22) rfl))) (mvT hZ (hw _ (List.mem_of_getElem? (i := 19) rfl))) (mvT hZ (hw _ (List.mem_of_getElem? (i := 23) rfl))) (by decide) (backOf (W := 1) (rm2 l Z a0 hw [] p3 (6 : Int32) T43.heap n0 (Nat.le_trans Z0 K_45.1) ) hZ (hw _ (List.mem_of_getElem? (i := 23) rfl)) (hw _ (List.mem_of_getElem? (i := 19) rfl)) (by decide) (by decide)) (g := (mkF m 246 #[.val (.long q1), .second, .val (.long q2), .second, .val (.int p3), .val (.int p4), .val (.long lo), .second, .val (.long hi), .second, .val (.int sr), .val (.ref bz1), .val (.int hO), .unset, .unset, .unset, .unset, .unset, .unset, .unset, .unset, .unset, .unset, .unset, .unset] [(.int (6 : Int32)), (.int p3), (.int (own_bit p3 (5 : Int32)))])) rfl (by rw [hml]; rfl) (argsL := [(.int p3), (.int (6 : Int32))]) (rest := [(.int (own_bit p3 (5 : Int32)))]) (lenOf own_pd0 rfl) rfl (by show 2 * 0 + _ ≤ _; exact Nat.le_of_eq rfl) (hb hby at_246) (fun _ _ => ⟨rfl, ez52, (by decide : 2 + 0 ≤ _), (by decide : 14 + 0 ≤ _)⟩)
  dsimp only [Pt.U, Pt.locs, Pt.cells, Pt.slots] at X53 lz53 yz53 zz53 st53 hQ53
  have X53 := own_reb X53 lz53 yz53 zz53
  have X53 : Stand p l e room_1 s m #[(.long q1), (.long q2), (.int p3), (.int p4)] below meth c T53 _ 2 14 := X53
  obtain ⟨hvq53, Nq53, ez53⟩ := hQ53
  rw [hvq53] at st53
  have N53 := Fr.app N52 Nq53
  refine OGo.st st53 ?_
  show OGo p.tables e below _ (T53.setTop (mkF m 249 #[.val (.long q1), .second, .val (.long q2), .second, .val (.int p3), .val (.int p4), .val (.long lo), .second, .val (.long hi), .second, .val (.int sr), .val (.ref bz1), .val (.int hO), .unset, .unset, .unset, .unset, .unset, .unset, .unset, .unset, .unset, .unset, .unset, .unset] [(.int (own_bit p3 (6 : Int32))), (.int (own_bit p3 (5 : Int32)))]))
  refine OGo.st (fun _ k_ => XS.iadd X53.here hx rfl (hb hby at_249) rfl k_) ?_
  show OGo p.tables e below _ (T53.setTop (mkF m 250 #[.val (.long q1), .second, .val (.long q2), .second, .val (.int p3), .val (.int p4), .val (.long lo), .second, .val (.long hi), .second, .val (.int sr), .val (.ref bz1), .val (.int hO), .unset, .unset, .unset, .unset, .unset, .unset, .unset, .unset, .unset, .unset, .unset, .unset] [(.int ((own_bit p3 (5 : Int32)) + (own_bit p3 (6 : Int32))))]))
  refine OGo.st (fun _ k_ => XS.iload X53.here hx rfl (hb hby at_250) rfl k_) ?_
  show OGo p.tables e below _ (T53.setTop (mkF m 252 #[.val (.long q1), .second, .val (.long q2), .second, .val (.int p3), .val (.int p4), .val (.long lo), .second, .val (.long hi), .second, .val (.int sr), .val (.ref bz1), .val (.int hO), .unset, .unset, .unset, .unset, .unset, .unset, .unset, .unset, .unset, .unset, .unset, .unset] [(.int p3), (.int ((own_bit p3 (5 : Int32)) + (own_bit p3 (6 : Int32))))]))
  refine OGo.st (fun _ k_ => XS.bipush X53.here hx rfl (hb hby at_252) k_) ?_
  show OGo p.tables e below _ (T53.setTop (mkF m 254 #[.val (.long q1), .second, .val (.long q2), .second, .val (.int p3), .val (.int p4), .val (.long lo), .second, .val (.long hi), .second, .val (.int sr), .val (.ref bz1), .val (.int hO), .unset, .unset, .unset, .unset, .unset, .unset, .unset, .unset, .unset, .unset, .unset, .unset] [(.int (7 : Int32)), (.int p3), (.int ((own_bit p3 (5 : Int32)) + (own_bit p3 (6 : Int32))))]))
  obtain ⟨_, _, ⟨T54, Lz54, kz54, nz54⟩, -, X54, ⟨Lc54, hQ54, lz54, yz54, zz54⟩, st54⟩ := Jvm.LawKit.callS X53 hx (y := (⟨"com/example/locator/locator/cli/WarmUpPassedPinLaw", "bit", "(II)I"⟩ : MethodName)) hown (mvT hZ (hw _ (List.mem_of_getElem? (i := 21) rfl))) (mvT hZ (hw _ (List.mem_of_getElem? (i := 22) rfl))) (mvT hZ (hw _ (List.mem_of_getElem? (i := 19) rfl))) (mvT hZ (hw _ (List.mem_of_getElem? (i := 23) rfl))) (by decide) (backOf (W := 1) (rm2 l Z a0 hw [] p3 (7 : Int32) T43.heap n0 (Nat.le_trans Z0 K_45.1) ) hZ (hw _ (List.mem_of_getElem? (i := 23) rfl)) (hw _ (List.mem_of_getElem? (i := 19) rfl)) (by decide) (by decide)) (g := (mkF m 254 #[.val (.long q1), .second, .val (.long q2), .second, .val (.int p3), .val (.int p4), .val (.long lo), .second, .val (.long hi), .second, .val (.int sr), .val (.ref bz1), .val (.int hO), .unset, .unset, .unset, .unset, .unset, .unset, .unset, .unset, .unset, .unset, .unset, .unset] [(.int (7 : Int32)), (.int p3), (.int ((own_bit p3 (5 : Int32)) + (own_bit p3 (6 : Int32))))])) rfl (by rw [hml]; rfl) (argsL := [(.int p3), (.int (7 : Int32))]) (rest := [(.int ((own_bit p3 (5 : Int32)) + (own_bit p3 (6 : Int32))))]) (lenOf own_pd0 rfl) rfl (by show 2 * 0 + _ ≤ _; exact Nat.le_of_eq rfl) (hb hby at_254) (fun _ _ => ⟨rfl, ez53, (by decide : 2 + 0 ≤ _), (by decide : 14 + 0 ≤ _)⟩)
  dsimp only [Pt.U, Pt.locs, Pt.cells, Pt.slots] at X54 lz54 yz54 zz54 st54 hQ54
  have X54 := own_reb X54 lz54 yz54 zz54
  have X54 : Stand p l e room_1 s m #[(.long q1), (.long q2), (.int p3), (.int p4)] below meth c T54 _ 2 14 := X54
  obtain ⟨hvq54, Nq54, ez54⟩ := hQ54
  rw [hvq54] at st54
  have N54 := Fr.app N53 Nq54
  refine OGo.st st54 ?_
  show OGo p.tables e below _ (T54.setTop (mkF m 257 #[.val (.long q1), .second, .val (.long q2), .second, .val (.int p3), .val (.int p4), .val (.long lo), .second, .val (.long hi), .second, .val (.int sr), .val (.ref bz1), .val (.int hO), .unset, .unset, .unset, .unset, .unset, .unset, .unset, .unset, .unset, .unset, .unset, .unset] [(.int (own_bit p3 (7 : Int32))), (.int ((own_bit p3 (5 : Int32)) + (own_bit p3 (6 : Int32))))]))
  refine OGo.st (fun _ k_ => XS.iadd X54.here hx rfl (hb hby at_257) rfl k_) ?_
  show OGo p.tables e below _ (T54.setTop (mkF m 258 #[.val (.long q1), .second, .val (.long q2), .second, .val (.int p3), .val (.int p4), .val (.long lo), .second, .val (.long hi), .second, .val (.int sr), .val (.ref bz1), .val (.int hO), .unset, .unset, .unset, .unset, .unset, .unset, .unset, .unset, .unset, .unset, .unset, .unset] [(.int (((own_bit p3 (5 : Int32)) + (own_bit p3 (6 : Int32))) + (own_bit p3 (7 : Int32))))]))
  refine OGo.st (fun _ k_ => XS.iload X54.here hx rfl (hb hby at_258) rfl k_) ?_
  show OGo p.tables e below _ (T54.setTop (mkF m 260 #[.val (.long q1), .second, .val (.long q2), .second, .val (.int p3), .val (.int p4), .val (.long lo), .second, .val (.long hi), .second, .val (.int sr), .val (.ref bz1), .val (.int hO), .unset, .unset, .unset, .unset, .unset, .unset, .unset, .unset, .unset, .unset, .unset, .unset] [(.int p3), (.int (((own_bit p3 (5 : Int32)) + (own_bit p3 (6 : Int32))) + (own_bit p3 (7 : Int32))))]))
  refine OGo.st (fun _ k_ => XS.bipush X54.here hx rfl (hb hby at_260) k_) ?_
  show OGo p.tables e below _ (T54.setTop (mkF m 262 #[.val (.long q1), .second, .val (.long q2), .second, .val (.int p3), .val (.int p4), .val (.long lo), .second, .val (.long hi), .second, .val (.int sr), .val (.ref bz1), .val (.int hO), .unset, .unset, .unset, .unset, .unset, .unset, .unset, .unset, .unset, .unset, .unset, .unset] [(.int (8 : Int32)), (.int p3), (.int (((own_bit p3 (5 : Int32)) + (own_bit p3 (6 : Int32))) + (own_bit p3 (7 : Int32))))]))
  obtain ⟨_, _, ⟨T55, Lz55, kz55, nz55⟩, -, X55, ⟨Lc55, hQ55, lz55, yz55, zz55⟩, st55⟩ := Jvm.LawKit.callS X54 hx (y := (⟨"com/example/locator/locator/cli/WarmUpPassedPinLaw", "bit", "(II)I"⟩ : MethodName)) hown (mvT hZ (hw _ (List.mem_of_getElem? (i := 21) rfl))) (mvT hZ (hw _ (List.mem_of_getElem? (i := 22) rfl))) (mvT hZ (hw _ (List.mem_of_getElem? (i := 19) rfl))) (mvT hZ (hw _ (List.mem_of_getElem? (i := 23) rfl))) (by decide) (backOf (W := 1) (rm2 l Z a0 hw [] p3 (8 : Int32) T43.heap n0 (Nat.le_trans Z0 K_45.1) ) hZ (hw _ (List.mem_of_getElem? (i := 23) rfl)) (hw _ (List.mem_of_getElem? (i := 19) rfl)) (by decide) (by decide)) (g := (mkF m 262 #[.val (.long q1), .second, .val (.long q2), .second, .val (.int p3), .val (.int p4), .val (.long lo), .second, .val (.long hi), .second, .val (.int sr), .val (.ref bz1), .val (.int hO), .unset, .unset, .unset, .unset, .unset, .unset, .unset, .unset, .unset, .unset, .unset, .unset] [(.int (8 : Int32)), (.int p3), (.int (((own_bit p3 (5 : Int32)) + (own_bit p3 (6 : Int32))) + (own_bit p3 (7 : Int32))))])) rfl (by rw [hml]; rfl) (argsL := [(.int p3), (.int (8 : Int32))]) (rest := [(.int (((own_bit p3 (5 : Int32)) + (own_bit p3 (6 : Int32))) + (own_bit p3 (7 : Int32))))]) (lenOf own_pd0 rfl) rfl (by show 2 * 0 + _ ≤ _; exact Nat.le_of_eq rfl) (hb hby at_262) (fun _ _ => ⟨rfl, ez54, (by decide : 2 + 0 ≤ _), (by decide : 14 + 0 ≤ _)⟩)
  dsimp only [Pt.U, Pt.locs, Pt.cells, Pt.slots] at X55 lz55 yz55 zz55 st55 hQ55
  have X55 := own_reb X55 lz55 yz55 zz55
  have X55 : Stand p l e room_1 s m #[(.long q1), (.long q2), (.int p3), (.int p4)] below meth c T55 _ 2 14 := X55
  obtain ⟨hvq55, Nq55, ez55⟩ := hQ55
  rw [hvq55] at st55
  have N55 := Fr.app N54 Nq55
  refine OGo.st st55 ?_
  show OGo p.tables e below _ (T55.setTop (mkF m 265 #[.val (.long q1), .second, .val (.long q2), .second, .val (.int p3), .val (.int p4), .val (.long lo), .second, .val (.long hi), .second, .val (.int sr), .val (.ref bz1), .val (.int hO), .unset, .unset, .unset, .unset, .unset, .unset, .unset, .unset, .unset, .unset, .unset, .unset] [(.int (own_bit p3 (8 : Int32))), (.int (((own_bit p3 (5 : Int32)) + (own_bit p3 (6 : Int32))) + (own_bit p3 (7 : Int32))))]))
  refine OGo.st (fun _ k_ => XS.iadd X55.here hx rfl (hb hby at_265) rfl k_) ?_
  show OGo p.tables e below _ (T55.setTop (mkF m 266 #[.val (.long q1), .second, .val (.long q2), .second, .val (.int p3), .val (.int p4), .val (.long lo), .second, .val (.long hi), .second, .val (.int sr), .val (.ref bz1), .val (.int hO), .unset, .unset, .unset, .unset, .unset, .unset, .unset, .unset, .unset, .unset, .unset, .unset] [(.int ((((own_bit p3 (5 : Int32)) + (own_bit p3 (6 : Int32))) + (own_bit p3 (7 : Int32))) + (own_bit p3 (8 : Int32))))]))
  refine OGo.st (fun _ k_ => XS.iload X55.here hx rfl (hb hby at_266) rfl k_) ?_
  show OGo p.tables e below _ (T55.setTop (mkF m 268 #[.val (.long q1), .second, .val (.long q2), .second, .val (.int p3), .val (.int p4), .val (.long lo), .second, .val (.long hi), .second, .val (.int sr), .val (.ref bz1), .val (.int hO), .unset, .unset, .unset, .unset, .unset, .unset, .unset, .unset, .unset, .unset, .unset, .unset] [(.int p3), (.int ((((own_bit p3 (5 : Int32)) + (own_bit p3 (6 : Int32))) + (own_bit p3 (7 : Int32))) + (own_bit p3 (8 : Int32))))]))
  refine OGo.st (fun _ k_ => XS.bipush X55.here hx rfl (hb hby at_268) k_) ?_
  show OGo p.tables e below _ (T55.setTop (mkF m 270 #[.val (.long q1), .second, .val (.long q2), .second, .val (.int p3), .val (.int p4), .val (.long lo), .second, .val (.long hi), .second, .val (.int sr), .val (.ref bz1), .val (.int hO), .unset, .unset, .unset, .unset, .unset, .unset, .unset, .unset, .unset, .unset, .unset, .unset] [(.int (9 : Int32)), (.int p3), (.int ((((own_bit p3 (5 : Int32)) + (own_bit p3 (6 : Int32))) + (own_bit p3 (7 : Int32))) + (own_bit p3 (8 : Int32))))]))
  obtain ⟨_, _, ⟨T56, Lz56, kz56, nz56⟩, -, X56, ⟨Lc56, hQ56, lz56, yz56, zz56⟩, st56⟩ := Jvm.LawKit.callS X55 hx (y := (⟨"com/example/locator/locator/cli/WarmUpPassedPinLaw", "bit", "(II)I"⟩ : MethodName)) hown (mvT hZ (hw _ (List.mem_of_getElem? (i := 21) rfl))) (mvT hZ (hw _ (List.mem_of_getElem? (i := 22) rfl))) (mvT hZ (hw _ (List.mem_of_getElem? (i := 19) rfl))) (mvT hZ (hw _ (List.mem_of_getElem? (i := 23) rfl))) (by decide) (backOf (W := 1) (rm2 l Z a0 hw [] p3 (9 : Int32) T43.heap n0 (Nat.le_trans Z0 K_45.1) ) hZ (hw _ (List.mem_of_getElem? (i := 23) rfl)) (hw _ (List.mem_of_getElem? (i := 19) rfl)) (by decide) (by decide)) (g := (mkF m 270 #[.val (.long q1), .second, .val (.long q2), .second, .val (.int p3), .val (.int p4), .val (.long lo), .second, .val (.long hi), .second, .val (.int sr), .val (.ref bz1), .val (.int hO), .unset, .unset, .unset, .unset, .unset, .unset, .unset, .unset, .unset, .unset, .unset, .unset] [(.int (9 : Int32)), (.int p3), (.int ((((own_bit p3 (5 : Int32)) + (own_bit p3 (6 : Int32))) + (own_bit p3 (7 : Int32))) + (own_bit p3 (8 : Int32))))])) rfl (by rw [hml]; rfl) (argsL := [(.int p3), (.int (9 : Int32))]) (rest := [(.int ((((own_bit p3 (5 : Int32)) + (own_bit p3 (6 : Int32))) + (own_bit p3 (7 : Int32))) + (own_bit p3 (8 : Int32))))]) (lenOf own_pd0 rfl) rfl (by show 2 * 0 + _ ≤ _; exact Nat.le_of_eq rfl) (hb hby at_270) (fun _ _ => ⟨rfl, ez55, (by decide : 2 + 0 ≤ _), (by decide : 14 + 0 ≤ _)⟩)
  dsimp only [Pt.U, Pt.locs, Pt.cells, Pt.slots] at X56 lz56 yz56 zz56 st56 hQ56
  have X56 := own_reb X56 lz56 yz56 zz56
  have X56 : Stand p l e room_1 s m #[(.long q1), (.long q2), (.int p3), (.int p4)] below meth c T56 _ 2 14 := X56
  obtain ⟨hvq56, Nq56, ez56⟩ := hQ56
  rw [hvq56] at st56
  have N56 := Fr.app N55 Nq56
  refine OGo.st st56 ?_
  show OGo p.tables e below _ (T56.setTop (mkF m 273 #[.val (.long q1), .second, .val (.long q2), .second, .val (.int p3), .val (.int p4), .val (.long lo), .second, .val (.long hi), .second, .val (.int sr), .val (.ref bz1), .val (.int hO), .unset, .unset, .unset, .unset, .unset, .unset, .unset, .unset, .unset, .unset, .unset, .unset] [(.int (own_bit p3 (9 : Int32))), (.int ((((own_bit p3 (5 : Int32)) + (own_bit p3 (6 : Int32))) + (own_bit p3 (7 : Int32))) + (own_bit p3 (8 : Int32))))]))
  refine OGo.st (fun _ k_ => XS.iadd X56.here hx rfl (hb hby at_273) rfl k_) ?_
  show OGo p.tables e below _ (T56.setTop (mkF m 274 #[.val (.long q1), .second, .val (.long q2), .second, .val (.int p3), .val (.int p4), .val (.long lo), .second, .val (.long hi), .second, .val (.int sr), .val (.ref bz1), .val (.int hO), .unset, .unset, .unset, .unset, .unset, .unset, .unset, .unset, .unset, .unset, .unset, .unset] [(.int (((((own_bit p3 (5 : Int32)) + (own_bit p3 (6 : Int32))) + (own_bit p3 (7 : Int32))) + (own_bit p3 (8 : Int32))) + (own_bit p3 (9 : Int32))))]))
  obtain ⟨hN, hhN⟩ : ∃ z : Int32, z = (((((own_bit p3 (5 : Int32)) + (own_bit p3 (6 : Int32))) + (own_bit p3 (7 : Int32))) + (own_bit p3 (8 : Int32))) + (own_bit p3 (9 : Int32))) := ⟨_, rfl⟩
  rw [← hhN]
  show OGo p.tables e below _ (T56.setTop (mkF m 274 #[.val (.long q1), .second, .val (.long q2), .second, .val (.int p3), .val (.int p4), .val (.long lo), .second, .val (.long hi), .second, .val (.int sr), .val (.ref bz1), .val (.int hO), .unset, .unset, .unset, .unset, .unset, .unset, .unset, .unset, .unset, .unset, .unset, .unset] [(.int hN)]))
  refine OGo.st (fun _ k_ => XS.istore X56.here hx rfl (hb hby at_274) rfl (l' := #[.val (.long q1), .second, .val (.long q2), .second, .val (.int p3), .val (.int p4), .val (.long lo), .second, .val (.long hi), .second, .val (.int sr), .val (.ref bz1), .val (.int hO), .val (.int hN), .unset, .unset, .unset, .unset, .unset, .unset, .unset, .unset, .unset, .unset, .unset]) rfl k_) ?_
  show OGo p.tables e below _ (T56.setTop (mkF m 276 #[.val (.long q1), .second, .val (.long q2), .second, .val (.int p3), .val (.int p4), .val (.long lo), .second, .val (.long hi), .second, .val (.int sr), .val (.ref bz1), .val (.int hO), .val (.int hN), .unset, .unset, .unset, .unset, .unset, .unset, .unset, .unset, .unset, .unset, .unset] []))
  refine OGo.st (fun _ k_ => XS.iload X56.here hx rfl (hb hby at_276) rfl k_) ?_
  show OGo p.tables e below _ (T56.setTop (mkF m 278 #[.val (.long q1), .second, .val (.long q2), .second, .val (.int p3), .val (.int p4), .val (.long lo), .second, .val (.long hi), .second, .val (.int sr), .val (.ref bz1), .val (.int hO), .val (.int hN), .unset, .unset, .unset, .unset, .unset, .unset, .unset, .unset, .unset, .unset, .unset] [(.int hO)]))
  refine OGo.st (fun _ k_ => XS.iload X56.here hx rfl (hb hby at_278) rfl k_) ?_
  show OGo p.tables e below _ (T56.setTop (mkF m 280 #[.val (.long q1), .second, .val (.long q2), .second, .val (.int p3), .val (.int p4), .val (.long lo), .second, .val (.long hi), .second, .val (.int sr), .val (.ref bz1), .val (.int hO), .val (.int hN), .unset, .unset, .unset, .unset, .unset, .unset, .unset, .unset, .unset, .unset, .unset] [(.int hN), (.int hO)]))
  refine OGo.st (fun _ k_ => XS.iadd X56.here hx rfl (hb hby at_280) rfl k_) ?_
  show OGo p.tables e below _ (T56.setTop (mkF m 281 #[.val (.long q1), .second, .val (.long q2), .second, .val (.int p3), .val (.int p4), .val (.long lo), .second, .val (.long hi), .second, .val (.int sr), .val (.ref bz1), .val (.int hO), .val (.int hN), .unset, .unset, .unset, .unset, .unset, .unset, .unset, .unset, .unset, .unset, .unset] [(.int (hO + hN))]))
  obtain ⟨hA, hhA⟩ : ∃ z : Int32, z = (hO + hN) := ⟨_, rfl⟩
  rw [← hhA]
  show OGo p.tables e below _ (T56.setTop (mkF m 281 #[.val (.long q1), .second, .val (.long q2), .second, .val (.int p3), .val (.int p4), .val (.long lo), .second, .val (.long hi), .second, .val (.int sr), .val (.ref bz1), .val (.int hO), .val (.int hN), .unset, .unset, .unset, .unset, .unset, .unset, .unset, .unset, .unset, .unset, .unset] [(.int hA)]))
  refine OGo.st (fun _ k_ => XS.istore X56.here hx rfl (hb hby at_281) rfl (l' := #[.val (.long q1), .second, .val (.long q2), .second, .val (.int p3), .val (.int p4), .val (.long lo), .second, .val (.long hi), .second, .val (.int sr), .val (.ref bz1), .val (.int hO), .val (.int hN), .val (.int hA), .unset, .unset, .unset, .unset, .unset, .unset, .unset, .unset, .unset, .unset]) rfl k_) ?_
  obtain ⟨mO, hvz57, st57⟩ : ∃ mO : Int64, mO = (if hO < (3 : Int32) then lo else hi) ∧ ∀ t, Steps p.tables e below (T56.setTop (mkF m 296 #[.val (.long q1), .second, .val (.long q2), .second, .val (.int p3), .val (.int p4), .val (.long lo), .second, .val (.long hi), .second, .val (.int sr), .val (.ref bz1), .val (.int hO), .val (.int hN), .val (.int hA), .unset, .unset, .unset, .unset, .unset, .unset, .unset, .unset, .unset, .unset] [(.long mO)])) t → Steps p.tables e below (T56.setTop (mkF m 283 #[.val (.long q1), .second, .val (.long q2), .second, .val (.int p3), .val (.int p4), .val (.long lo), .second, .val (.long hi), .second, .val (.int sr), .val (.ref bz1), .val (.int hO), .val (.int hN), .val (.int hA), .unset, .unset, .unset, .unset, .unset, .unset, .unset, .unset, .unset, .unset] [])) t := by
    refine ⟨_, rfl, fun t k => ?_⟩
    show Steps p.tables e below (T56.setTop (mkF m 283 #[.val (.long q1), .second, .val (.long q2), .second, .val (.int p3), .val (.int p4), .val (.long lo), .second, .val (.long hi), .second, .val (.int sr), .val (.ref bz1), .val (.int hO), .val (.int hN), .val (.int hA), .unset, .unset, .unset, .unset, .unset, .unset, .unset, .unset, .unset, .unset] [])) _
    refine XS.iload X56.here hx rfl (hb hby at_283) rfl ?_
    show Steps p.tables e below (T56.setTop (mkF m 285 #[.val (.long q1), .second, .val (.long q2), .second, .val (.int p3), .val (.int p4), .val (.long lo), .second, .val (.long hi), .second, .val (.int sr), .val (.ref bz1), .val (.int hO), .val (.int hN), .val (.int hA), .unset, .unset, .unset, .unset, .unset, .unset, .unset, .unset, .unset, .unset] [(.int hO)])) _
    refine XS.iconst X56.here hx rfl (hb hby at_285) ?_
    show Steps p.tables e below (T56.setTop (mkF m 286 #[.val (.long q1), .second, .val (.long q2), .second, .val (.int p3), .val (.int p4), .val (.long lo), .second, .val (.long hi), .second, .val (.int sr), .val (.ref bz1), .val (.int hO), .val (.int hN), .val (.int hA), .unset, .unset, .unset, .unset, .unset, .unset, .unset, .unset, .unset, .unset] [(.int (3 : Int32)), (.int hO)])) _
    by_cases hs286 : hO < (3 : Int32)
    · rw [if_pos hs286] at k
      refine XS.icmpYes X56.here hx rfl (pc0 := 286) (pc' := 294) rfl (hb hby at_286) rfl (XT.ii_lt_t hs286) (by decide) (by decide) ?_
      show Steps p.tables e below (T56.setTop (mkF m 294 #[.val (.long q1), .second, .val (.long q2), .second, .val (.int p3), .val (.int p4), .val (.long lo), .second, .val (.long hi), .second, .val (.int sr), .val (.ref bz1), .val (.int hO), .val (.int hN), .val (.int hA), .unset, .unset, .unset, .unset, .unset, .unset, .unset, .unset, .unset, .unset] [])) _
      refine XS.lload X56.here hx rfl (hb hby at_294) rfl ?_
      exact k
    · rw [if_neg hs286] at k
      refine XS.icmpNo X56.here hx rfl (hb hby at_286) rfl (XT.ii_lt_f hs286) ?_
      show Steps p.tables e below (T56.setTop (mkF m 289 #[.val (.long q1), .second, .val (.long q2), .second, .val (.int p3), .val (.int p4), .val (.long lo), .second, .val (.long hi), .second, .val (.int sr), .val (.ref bz1), .val (.int hO), .val (.int hN), .val (.int hA), .unset, .unset, .unset, .unset, .unset, .unset, .unset, .unset, .unset, .unset] [])) _
      refine XS.lload X56.here hx rfl (hb hby at_289) rfl ?_
      show Steps p.tables e below (T56.setTop (mkF m 291 #[.val (.long q1), .second, .val (.long q2), .second, .val (.int p3), .val (.int p4), .val (.long lo), .second, .val (.long hi), .second, .val (.int sr), .val (.ref bz1), .val (.int hO), .val (.int hN), .val (.int hA), .unset, .unset, .unset, .unset, .unset, .unset, .unset, .unset, .unset, .unset] [(.long hi)])) _
      refine XS.goto X56.here hx rfl (pc0 := 291) (pc' := 296) rfl (hb hby at_291) (by decide) (by decide) ?_
      exact k
  refine OGo.st st57 ?_
  show OGo p.tables e below _ (T56.setTop (mkF m 296 #[.val (.long q1), .second, .val (.long q2), .second, .val (.int p3), .val (.int p4), .val (.long lo), .second, .val (.long hi), .second, .val (.int sr), .val (.ref bz1), .val (.int hO), .val (.int hN), .val (.int hA), .unset, .unset, .unset, .unset, .unset, .unset, .unset, .unset, .unset, .unset] [(.long mO)]))
  refine OGo.st (fun _ k_ => XS.lstore X56.here hx rfl (hb hby at_296) rfl (l' := #[.val (.long q1), .second, .val (.long q2), .second, .val (.int p3), .val (.int p4), .val (.long lo), .second, .val (.long hi), .second, .val (.int sr), .val (.ref bz1), .val (.int hO), .val (.int hN), .val (.int hA), .val (.long mO), .second, .unset, .unset, .unset, .unset, .unset, .unset, .unset, .unset]) rfl k_) ?_
  obtain ⟨mN, hvz58, st58⟩ : ∃ mN : Int64, mN = (if hN < (3 : Int32) then lo else hi) ∧ ∀ t, Steps p.tables e below (T56.setTop (mkF m 311 #[.val (.long q1), .second, .val (.long q2), .second, .val (.int p3), .val (.int p4), .val (.long lo), .second, .val (.long hi), .second, .val (.int sr), .val (.ref bz1), .val (.int hO), .val (.int hN), .val (.int hA), .val (.long mO), .second, .unset, .unset, .unset, .unset, .unset, .unset, .unset, .unset] [(.long mN)])) t → Steps p.tables e below (T56.setTop (mkF m 298 #[.val (.long q1), .second, .val (.long q2), .second, .val (.int p3), .val (.int p4), .val (.long lo), .second, .val (.long hi), .second, .val (.int sr), .val (.ref bz1), .val (.int hO), .val (.int hN), .val (.int hA), .val (.long mO), .second, .unset, .unset, .unset, .unset, .unset, .unset, .unset, .unset] [])) t := by
    refine ⟨_, rfl, fun t k => ?_⟩
    show Steps p.tables e below (T56.setTop (mkF m 298 #[.val (.long q1), .second, .val (.long q2), .second, .val (.int p3), .val (.int p4), .val (.long lo), .second, .val (.long hi), .second, .val (.int sr), .val (.ref bz1), .val (.int hO), .val (.int hN), .val (.int hA), .val (.long mO), .second, .unset, .unset, .unset, .unset, .unset, .unset, .unset, .unset] [])) _
    refine XS.iload X56.here hx rfl (hb hby at_298) rfl ?_
    show Steps p.tables e below (T56.setTop (mkF m 300 #[.val (.long q1), .second, .val (.long q2), .second, .val (.int p3), .val (.int p4), .val (.long lo), .second, .val (.long hi), .second, .val (.int sr), .val (.ref bz1), .val (.int hO), .val (.int hN), .val (.int hA), .val (.long mO), .second, .unset, .unset, .unset, .unset, .unset, .unset, .unset, .unset] [(.int hN)])) _
    refine XS.iconst X56.here hx rfl (hb hby at_300) ?_
    show Steps p.tables e below (T56.setTop (mkF m 301 #[.val (.long q1), .second, .val (.long q2), .second, .val (.int p3), .val (.int p4), .val (.long lo), .second, .val (.long hi), .second, .val (.int sr), .val (.ref bz1), .val (.int hO), .val (.int hN), .val (.int hA), .val (.long mO), .second, .unset, .unset, .unset, .unset, .unset, .unset, .unset, .unset] [(.int (3 : Int32)), (.int hN)])) _
    by_cases hs301 : hN < (3 : Int32)
    · rw [if_pos hs301] at k
      refine XS.icmpYes X56.here hx rfl (pc0 := 301) (pc' := 309) rfl (hb hby at_301) rfl (XT.ii_lt_t hs301) (by decide) (by decide) ?_
      show Steps p.tables e below (T56.setTop (mkF m 309 #[.val (.long q1), .second, .val (.long q2), .second, .val (.int p3), .val (.int p4), .val (.long lo), .second, .val (.long hi), .second, .val (.int sr), .val (.ref bz1), .val (.int hO), .val (.int hN), .val (.int hA), .val (.long mO), .second, .unset, .unset, .unset, .unset, .unset, .unset, .unset, .unset] [])) _
      refine XS.lload X56.here hx rfl (hb hby at_309) rfl ?_
      exact k
    · rw [if_neg hs301] at k
      refine XS.icmpNo X56.here hx rfl (hb hby at_301) rfl (XT.ii_lt_f hs301) ?_
      show Steps p.tables e below (T56.setTop (mkF m 304 #[.val (.long q1), .second, .val (.long q2), .second, .val (.int p3), .val (.int p4), .val (.long lo), .second, .val (.long hi), .second, .val (.int sr), .val (.ref bz1), .val (.int hO), .val (.int hN), .val (.int hA), .val (.long mO), .second, .unset, .unset, .unset, .unset, .unset, .unset, .unset, .unset] [])) _
      refine XS.lload X56.here hx rfl (hb hby at_304) rfl ?_
      show Steps p.tables e below (T56.setTop (mkF m 306 #[.val (.long q1), .second, .val (.long q2), .second, .val (.int p3), .val (.int p4), .val (.long lo), .second, .val (.long hi), .second, .val (.int sr), .val (.ref bz1), .val (.int hO), .val (.int hN), .val (.int hA), .val (.long mO), .second, .unset, .unset, .unset, .unset, .unset, .unset, .unset, .unset] [(.long hi)])) _
      refine XS.goto X56.here hx rfl (pc0 := 306) (pc' := 311) rfl (hb hby at_306) (by decide) (by decide) ?_
      exact k
  refine OGo.st st58 ?_
  show OGo p.tables e below _ (T56.setTop (mkF m 311 #[.val (.long q1), .second, .val (.long q2), .second, .val (.int p3), .val (.int p4), .val (.long lo), .second, .val (.long hi), .second, .val (.int sr), .val (.ref bz1), .val (.int hO), .val (.int hN), .val (.int hA), .val (.long mO), .second, .unset, .unset, .unset, .unset, .unset, .unset, .unset, .unset] [(.long mN)]))
  refine OGo.st (fun _ k_ => XS.lstore X56.here hx rfl (hb hby at_311) rfl (l' := #[.val (.long q1), .second, .val (.long q2), .second, .val (.int p3), .val (.int p4), .val (.long lo), .second, .val (.long hi), .second, .val (.int sr), .val (.ref bz1), .val (.int hO), .val (.int hN), .val (.int hA), .val (.long mO), .second, .val (.long mN), .second, .unset, .unset, .unset, .unset, .unset, .unset]) rfl k_) ?_
  show OGo p.tables e below _ (T56.setTop (mkF m 313 #[.val (.long q1), .second, .val (.long q2), .second, .val (.int p3), .val (.int p4), .val (.long lo), .second, .val (.long hi), .second, .val (.int sr), .val (.ref bz1), .val (.int hO), .val (.int hN), .val (.int hA), .val (.long mO), .second, .val (.long mN), .second, .unset, .unset, .unset, .unset, .unset, .unset] []))
  refine OGo.st (fun _ k_ => X56.ldc2J hx hown (mvT hZ (hw _ (List.mem_of_getElem? (i := 33) rfl))) rfl (hb hby at_313) k_) ?_
  show OGo p.tables e below _ (T56.setTop (mkF m 316 #[.val (.long q1), .second, .val (.long q2), .second, .val (.int p3), .val (.int p4), .val (.long lo), .second, .val (.long hi), .second, .val (.int sr), .val (.ref bz1), .val (.int hO), .val (.int hN), .val (.int hA), .val (.long mO), .second, .val (.long mN), .second, .unset, .unset, .unset, .unset, .unset, .unset] [(.long (10000 : Int64))]))
  refine OGo.st (fun _ k_ => XS.iload X56.here hx rfl (hb hby at_316) rfl k_) ?_
  show OGo p.tables e below _ (T56.setTop (mkF m 318 #[.val (.long q1), .second, .val (.long q2), .second, .val (.int p3), .val (.int p4), .val (.long lo), .second, .val (.long hi), .second, .val (.int sr), .val (.ref bz1), .val (.int hO), .val (.int hN), .val (.int hA), .val (.long mO), .second, .val (.long mN), .second, .unset, .unset, .unset, .unset, .unset, .unset] [(.int sr), (.long (10000 : Int64))]))
  refine OGo.st (fun _ k_ => XS.i2l X56.here hx rfl (hb hby at_318) rfl k_) ?_
  show OGo p.tables e below _ (T56.setTop (mkF m 319 #[.val (.long q1), .second, .val (.long q2), .second, .val (.int p3), .val (.int p4), .val (.long lo), .second, .val (.long hi), .second, .val (.int sr), .val (.ref bz1), .val (.int hO), .val (.int hN), .val (.int hA), .val (.long mO), .second, .val (.long mN), .second, .unset, .unset, .unset, .unset, .unset, .unset] [(.long sr.toInt64), (.long (10000 : Int64))]))
  refine OGo.st (fun _ k_ => XS.ladd X56.here hx rfl (hb hby at_319) rfl k_) ?_
  show OGo p.tables e below _ (T56.setTop (mkF m 320 #[.val (.long q1), .second, .val (.long q2), .second, .val (.int p3), .val (.int p4), .val (.long lo), .second, .val (.long hi), .second, .val (.int sr), .val (.ref bz1), .val (.int hO), .val (.int hN), .val (.int hA), .val (.long mO), .second, .val (.long mN), .second, .unset, .unset, .unset, .unset, .unset, .unset] [(.long ((10000 : Int64) + sr.toInt64))]))
  refine OGo.st (fun _ k_ => XS.lconst X56.here hx rfl (hb hby at_320) k_) ?_
  show OGo p.tables e below _ (T56.setTop (mkF m 321 #[.val (.long q1), .second, .val (.long q2), .second, .val (.int p3), .val (.int p4), .val (.long lo), .second, .val (.long hi), .second, .val (.int sr), .val (.ref bz1), .val (.int hO), .val (.int hN), .val (.int hA), .val (.long mO), .second, .val (.long mN), .second, .unset, .unset, .unset, .unset, .unset, .unset] [(.long (1 : Int64)), (.long ((10000 : Int64) + sr.toInt64))]))
  refine OGo.st (fun _ k_ => XS.lsub X56.here hx rfl (hb hby at_321) rfl k_) ?_
  show OGo p.tables e below _ (T56.setTop (mkF m 322 #[.val (.long q1), .second, .val (.long q2), .second, .val (.int p3), .val (.int p4), .val (.long lo), .second, .val (.long hi), .second, .val (.int sr), .val (.ref bz1), .val (.int hO), .val (.int hN), .val (.int hA), .val (.long mO), .second, .val (.long mN), .second, .unset, .unset, .unset, .unset, .unset, .unset] [(.long (((10000 : Int64) + sr.toInt64) - (1 : Int64)))]))
  refine OGo.st (fun _ k_ => XS.iload X56.here hx rfl (hb hby at_322) rfl k_) ?_
  show OGo p.tables e below _ (T56.setTop (mkF m 324 #[.val (.long q1), .second, .val (.long q2), .second, .val (.int p3), .val (.int p4), .val (.long lo), .second, .val (.long hi), .second, .val (.int sr), .val (.ref bz1), .val (.int hO), .val (.int hN), .val (.int hA), .val (.long mO), .second, .val (.long mN), .second, .unset, .unset, .unset, .unset, .unset, .unset] [(.int sr), (.long (((10000 : Int64) + sr.toInt64) - (1 : Int64)))]))
  refine OGo.st (fun _ k_ => XS.i2l X56.here hx rfl (hb hby at_324) rfl k_) ?_
  show OGo p.tables e below _ (T56.setTop (mkF m 325 #[.val (.long q1), .second, .val (.long q2), .second, .val (.int p3), .val (.int p4), .val (.long lo), .second, .val (.long hi), .second, .val (.int sr), .val (.ref bz1), .val (.int hO), .val (.int hN), .val (.int hA), .val (.long mO), .second, .val (.long mN), .second, .unset, .unset, .unset, .unset, .unset, .unset] [(.long sr.toInt64), (.long (((10000 : Int64) + sr.toInt64) - (1 : Int64)))]))
  refine OGo.st (fun _ k_ => XS.ldiv X56.here hx rfl (hb hby at_325) rfl hsr_.2 k_) ?_
  show OGo p.tables e below _ (T56.setTop (mkF m 326 #[.val (.long q1), .second, .val (.long q2), .second, .val (.int p3), .val (.int p4), .val (.long lo), .second, .val (.long hi), .second, .val (.int sr), .val (.ref bz1), .val (.int hO), .val (.int hN), .val (.int hA), .val (.long mO), .second, .val (.long mN), .second, .unset, .unset, .unset, .unset, .unset, .unset] [(.long ((((10000 : Int64) + sr.toInt64) - (1 : Int64)) / sr.toInt64))]))
  refine OGo.st (fun _ k_ => XS.lstore X56.here hx rfl (hb hby at_326) rfl (l' := #[.val (.long q1), .second, .val (.long q2), .second, .val (.int p3), .val (.int p4), .val (.long lo), .second, .val (.long hi), .second, .val (.int sr), .val (.ref bz1), .val (.int hO), .val (.int hN), .val (.int hA), .val (.long mO), .second, .val (.long mN), .second, .val (.long ((((10000 : Int64) + sr.toInt64) - (1 : Int64)) / sr.toInt64)), .second, .unset, .unset, .unset, .unset]) rfl k_) ?_
  obtain ⟨v21, hvz59, st59⟩ : ∃ v21 : Int32, v21 = (if (10 : Int64) < ((((10000 : Int64) + sr.toInt64) - (1 : Int64)) / sr.toInt64) then (0 : Int32) else (if (cmpValue (FP.dcmp (FP.l2d mN) (FP.dmul (4606281698874543309 : UInt64) (FP.l2d mO))) .l) < 0 then (0 : Int32) else (1 : Int32))) ∧ ∀ t, Steps p.tables e below (T56.setTop (mkF m 356 #[.val (.long q1), .second, .val (.long q2), .second, .val (.int p3), .val (.int p4), .val (.long lo), .second, .val (.long hi), .second, .val (.int sr), .val (.ref bz1), .val (.int hO), .val (.int hN), .val (.int hA), .val (.long mO), .second, .val (.long mN), .second, .val (.long ((((10000 : Int64) + sr.toInt64) - (1 : Int64)) / sr.toInt64)), .second, .unset, .unset, .unset, .unset] [(.int v21)])) t → Steps p.tables e below (T56.setTop (mkF m 328 #[.val (.long q1), .second, .val (.long q2), .second, .val (.int p3), .val (.int p4), .val (.long lo), .second, .val (.long hi), .second, .val (.int sr), .val (.ref bz1), .val (.int hO), .val (.int hN), .val (.int hA), .val (.long mO), .second, .val (.long mN), .second, .val (.long ((((10000 : Int64) + sr.toInt64) - (1 : Int64)) / sr.toInt64)), .second, .unset, .unset, .unset, .unset] [])) t := by
    refine ⟨_, rfl, fun t k => ?_⟩
    show Steps p.tables e below (T56.setTop (mkF m 328 #[.val (.long q1), .second, .val (.long q2), .second, .val (.int p3), .val (.int p4), .val (.long lo), .second, .val (.long hi), .second, .val (.int sr), .val (.ref bz1), .val (.int hO), .val (.int hN), .val (.int hA), .val (.long mO), .second, .val (.long mN), .second, .val (.long ((((10000 : Int64) + sr.toInt64) - (1 : Int64)) / sr.toInt64)), .second, .unset, .unset, .unset, .unset] [])) _
    refine XS.lload X56.here hx rfl (hb hby at_328) rfl ?_
    show Steps p.tables e below (T56.setTop (mkF m 330 #[.val (.long q1), .second, .val (.long q2), .second, .val (.int p3), .val (.int p4), .val (.long lo), .second, .val (.long hi), .second, .val (.int sr), .val (.ref bz1), .val (.int hO), .val (.int hN), .val (.int hA), .val (.long mO), .second, .val (.long mN), .second, .val (.long ((((10000 : Int64) + sr.toInt64) - (1 : Int64)) / sr.toInt64)), .second, .unset, .unset, .unset, .unset] [(.long ((((10000 : Int64) + sr.toInt64) - (1 : Int64)) / sr.toInt64))])) _
    refine X56.ldc2J hx hown (mvT hZ (hw _ (List.mem_of_getElem? (i := 34) rfl))) rfl (hb hby at_330) ?_
    show Steps p.tables e below (T56.setTop (mkF m 333 #[.val (.long q1), .second, .val (.long q2), .second, .val (.int p3), .val (.int p4), .val (.long lo), .second, .val (.long hi), .second, .val (.int sr), .val (.ref bz1), .val (.int hO), .val (.int hN), .val (.int hA), .val (.long mO), .second, .val (.long mN), .second, .val (.long ((((10000 : Int64) + sr.toInt64) - (1 : Int64)) / sr.toInt64)), .second, .unset, .unset, .unset, .unset] [(.long (10 : Int64)), (.long ((((10000 : Int64) + sr.toInt64) - (1 : Int64)) / sr.toInt64))])) _
    by_cases hs333 : (10 : Int64) < ((((10000 : Int64) + sr.toInt64) - (1 : Int64)) / sr.toInt64)
    · rw [if_pos hs333] at k
      refine XT.lcmp X56.here hx rfl (hb hby at_333) rfl ?_
      show Steps p.tables e below (T56.setTop (mkF m 334 #[.val (.long q1), .second, .val (.long q2), .second, .val (.int p3), .val (.int p4), .val (.long lo), .second, .val (.long hi), .second, .val (.int sr), .val (.ref bz1), .val (.int hO), .val (.int hN), .val (.int hA), .val (.long mO), .second, .val (.long mN), .second, .val (.long ((((10000 : Int64) + sr.toInt64) - (1 : Int64)) / sr.toInt64)), .second, .unset, .unset, .unset, .unset] [(.int (XT.cmpL ((((10000 : Int64) + sr.toInt64) - (1 : Int64)) / sr.toInt64) (10 : Int64)))])) _
      refine XS.ifYes X56.here hx rfl (pc0 := 334) (pc' := 355) rfl (hb hby at_334) rfl (XT.ll_gt_t hs333) (by decide) (by decide) ?_
      show Steps p.tables e below (T56.setTop (mkF m 355 #[.val (.long q1), .second, .val (.long q2), .second, .val (.int p3), .val (.int p4), .val (.long lo), .second, .val (.long hi), .second, .val (.int sr), .val (.ref bz1), .val (.int hO), .val (.int hN), .val (.int hA), .val (.long mO), .second, .val (.long mN), .second, .val (.long ((((10000 : Int64) + sr.toInt64) - (1 : Int64)) / sr.toInt64)), .second, .unset, .unset, .unset, .unset] [])) _
      refine XS.iconst X56.here hx rfl (hb hby at_355) ?_
      exact k
    · rw [if_neg hs333] at k
      refine XT.lcmp X56.here hx rfl (hb hby at_333) rfl ?_
      show Steps p.tables e below (T56.setTop (mkF m 334 #[.val (.long q1), .second, .val (.long q2), .second, .val (.int p3), .val (.int p4), .val (.long lo), .second, .val (.long hi), .second, .val (.int sr), .val (.ref bz1), .val (.int hO), .val (.int hN), .val (.int hA), .val (.long mO), .second, .val (.long mN), .second, .val (.long ((((10000 : Int64) + sr.toInt64) - (1 : Int64)) / sr.toInt64)), .second, .unset, .unset, .unset, .unset] [(.int (XT.cmpL ((((10000 : Int64) + sr.toInt64) - (1 : Int64)) / sr.toInt64) (10 : Int64)))])) _
      refine XS.ifNo X56.here hx rfl (hb hby at_334) rfl (XT.ll_gt_f hs333) ?_
      show Steps p.tables e below (T56.setTop (mkF m 337 #[.val (.long q1), .second, .val (.long q2), .second, .val (.int p3), .val (.int p4), .val (.long lo), .second, .val (.long hi), .second, .val (.int sr), .val (.ref bz1), .val (.int hO), .val (.int hN), .val (.int hA), .val (.long mO), .second, .val (.long mN), .second, .val (.long ((((10000 : Int64) + sr.toInt64) - (1 : Int64)) / sr.toInt64)), .second, .unset, .unset, .unset, .unset] [])) _
      refine XS.lload X56.here hx rfl (hb hby at_337) rfl ?_
      show Steps p.tables e below (T56.setTop (mkF m 339 #[.val (.long q1), .second, .val (.long q2), .second, .val (.int p3), .val (.int p4), .val (.long lo), .second, .val (.long hi), .second, .val (.int sr), .val (.ref bz1), .val (.int hO), .val (.int hN), .val (.int hA), .val (.long mO), .second, .val (.long mN), .second, .val (.long ((((10000 : Int64) + sr.toInt64) - (1 : Int64)) / sr.toInt64)), .second, .unset, .unset, .unset, .unset] [(.long mN)])) _
      refine XS.l2dS X56.here hx rfl (hb hby at_339) rfl rfl ?_
      show Steps p.tables e below (T56.setTop (mkF m 340 #[.val (.long q1), .second, .val (.long q2), .second, .val (.int p3), .val (.int p4), .val (.long lo), .second, .val (.long hi), .second, .val (.int sr), .val (.ref bz1), .val (.int hO), .val (.int hN), .val (.int hA), .val (.long mO), .second, .val (.long mN), .second, .val (.long ((((10000 : Int64) + sr.toInt64) - (1 : Int64)) / sr.toInt64)), .second, .unset, .unset, .unset, .unset] [(.double (FP.l2d mN))])) _
      refine own_ldcD X56 hx hZ hown (b := (4606281698874543309 : UInt64)) (hw _ (List.mem_of_getElem? (i := 53) rfl)) (g := (mkF m 340 #[.val (.long q1), .second, .val (.long q2), .second, .val (.int p3), .val (.int p4), .val (.long lo), .second, .val (.long hi), .second, .val (.int sr), .val (.ref bz1), .val (.int hO), .val (.int hN), .val (.int hA), .val (.long mO), .second, .val (.long mN), .second, .val (.long ((((10000 : Int64) + sr.toInt64) - (1 : Int64)) / sr.toInt64)), .second, .unset, .unset, .unset, .unset] [(.double (FP.l2d mN))])) rfl (hb hby at_340) _ ?_
      show Steps p.tables e below (T56.setTop (mkF m 343 #[.val (.long q1), .second, .val (.long q2), .second, .val (.int p3), .val (.int p4), .val (.long lo), .second, .val (.long hi), .second, .val (.int sr), .val (.ref bz1), .val (.int hO), .val (.int hN), .val (.int hA), .val (.long mO), .second, .val (.long mN), .second, .val (.long ((((10000 : Int64) + sr.toInt64) - (1 : Int64)) / sr.toInt64)), .second, .unset, .unset, .unset, .unset] [(.double (4606281698874543309 : UInt64)), (.double (FP.l2d mN))])) _
      refine XS.lload X56.here hx rfl (hb hby at_343) rfl ?_
      show Steps p.tables e below (T56.setTop (mkF m 345 #[.val (.long q1), .second, .val (.long q2), .second, .val (.int p3), .val (.int p4), .val (.long lo), .second, .val (.long hi), .second, .val (.int sr), .val (.ref bz1), .val (.int hO), .val (.int hN), .val (.int hA), .val (.long mO), .second, .val (.long mN), .second, .val (.long ((((10000 : Int64) + sr.toInt64) - (1 : Int64)) / sr.toInt64)), .second, .unset, .unset, .unset, .unset] [(.long mO), (.double (4606281698874543309 : UInt64)), (.double (FP.l2d mN))])) _
      refine XS.l2dS X56.here hx rfl (hb hby at_345) rfl rfl ?_
      show Steps p.tables e below (T56.setTop (mkF m 346 #[.val (.long q1), .second, .val (.long q2), .second, .val (.int p3), .val (.int p4), .val (.long lo), .second, .val (.long hi), .second, .val (.int sr), .val (.ref bz1), .val (.int hO), .val (.int hN), .val (.int hA), .val (.long mO), .second, .val (.long mN), .second, .val (.long ((((10000 : Int64) + sr.toInt64) - (1 : Int64)) / sr.toInt64)), .second, .unset, .unset, .unset, .unset] [(.double (FP.l2d mO)), (.double (4606281698874543309 : UInt64)), (.double (FP.l2d mN))])) _
      refine XS.dmulS X56.here hx rfl (hb hby at_346) rfl (own_nn _) rfl ?_
      show Steps p.tables e below (T56.setTop (mkF m 347 #[.val (.long q1), .second, .val (.long q2), .second, .val (.int p3), .val (.int p4), .val (.long lo), .second, .val (.long hi), .second, .val (.int sr), .val (.ref bz1), .val (.int hO), .val (.int hN), .val (.int hA), .val (.long mO), .second, .val (.long mN), .second, .val (.long ((((10000 : Int64) + sr.toInt64) - (1 : Int64)) / sr.toInt64)), .second, .unset, .unset, .unset, .unset] [(.double (FP.dmul (4606281698874543309 : UInt64) (FP.l2d mO))), (.double (FP.l2d mN))])) _
      refine XS.dcmpS X56.here hx rfl (hb hby at_347) rfl rfl ?_
      show Steps p.tables e below (T56.setTop (mkF m 348 #[.val (.long q1), .second, .val (.long q2), .second, .val (.int p3), .val (.int p4), .val (.long lo), .second, .val (.long hi), .second, .val (.int sr), .val (.ref bz1), .val (.int hO), .val (.int hN), .val (.int hA), .val (.long mO), .second, .val (.long mN), .second, .val (.long ((((10000 : Int64) + sr.toInt64) - (1 : Int64)) / sr.toInt64)), .second, .unset, .unset, .unset, .unset] [(.int (cmpValue (FP.dcmp (FP.l2d mN) (FP.dmul (4606281698874543309 : UInt64) (FP.l2d mO))) .l))])) _
      by_cases hs348 : (cmpValue (FP.dcmp (FP.l2d mN) (FP.dmul (4606281698874543309 : UInt64) (FP.l2d mO))) .l) < 0
      · rw [if_pos hs348] at k
        refine XS.ifYes X56.here hx rfl (pc0 := 348) (pc' := 355) rfl (hb hby at_348) rfl (XT.i0_lt_t hs348) (by decide) (by decide) ?_
        show Steps p.tables e below (T56.setTop (mkF m 355 #[.val (.long q1), .second, .val (.long q2), .second, .val (.int p3), .val (.int p4), .val (.long lo), .second, .val (.long hi), .second, .val (.int sr), .val (.ref bz1), .val (.int hO), .val (.int hN), .val (.int hA), .val (.long mO), .second, .val (.long mN), .second, .val (.long ((((10000 : Int64) + sr.toInt64) - (1 : Int64)) / sr.toInt64)), .second, .unset, .unset, .unset, .unset] [])) _
        refine XS.iconst X56.here hx rfl (hb hby at_355) ?_
        exact k
      · rw [if_neg hs348] at k
        refine XS.ifNo X56.here hx rfl (hb hby at_348) rfl (XT.i0_lt_f hs348) ?_
        show Steps p.tables e below (T56.setTop (mkF m 351 #[.val (.long q1), .second, .val (.long q2), .second, .val (.int p3), .val (.int p4), .val (.long lo), .second, .val (.long hi), .second, .val (.int sr), .val (.ref bz1), .val (.int hO), .val (.int hN), .val (.int hA), .val (.long mO), .second, .val (.long mN), .second, .val (.long ((((10000 : Int64) + sr.toInt64) - (1 : Int64)) / sr.toInt64)), .second, .unset, .unset, .unset, .unset] [])) _
        refine XS.iconst X56.here hx rfl (hb hby at_351) ?_
        show Steps p.tables e below (T56.setTop (mkF m 352 #[.val (.long q1), .second, .val (.long q2), .second, .val (.int p3), .val (.int p4), .val (.long lo), .second, .val (.long hi), .second, .val (.int sr), .val (.ref bz1), .val (.int hO), .val (.int hN), .val (.int hA), .val (.long mO), .second, .val (.long mN), .second, .val (.long ((((10000 : Int64) + sr.toInt64) - (1 : Int64)) / sr.toInt64)), .second, .unset, .unset, .unset, .unset] [(.int (1 : Int32))])) _
        refine XS.goto X56.here hx rfl (pc0 := 352) (pc' := 356) rfl (hb hby at_352) (by decide) (by decide) ?_
        exact k
  refine OGo.st st59 ?_
  show OGo p.tables e below _ (T56.setTop (mkF m 356 #[.val (.long q1), .second, .val (.long q2), .second, .val (.int p3), .val (.int p4), .val (.long lo), .second, .val (.long hi), .second, .val (.int sr), .val (.ref bz1), .val (.int hO), .val (.int hN), .val (.int hA), .val (.long mO), .second, .val (.long mN), .second, .val (.long ((((10000 : Int64) + sr.toInt64) - (1 : Int64)) / sr.toInt64)), .second, .unset, .unset, .unset, .unset] [(.int v21)]))
  refine OGo.st (fun _ k_ => XS.istore X56.here hx rfl (hb hby at_356) rfl (l' := #[.val (.long q1), .second, .val (.long q2), .second, .val (.int p3), .val (.int p4), .val (.long lo), .second, .val (.long hi), .second, .val (.int sr), .val (.ref bz1), .val (.int hO), .val (.int hN), .val (.int hA), .val (.long mO), .second, .val (.long mN), .second, .val (.long ((((10000 : Int64) + sr.toInt64) - (1 : Int64)) / sr.toInt64)), .second, .val (.int v21), .unset, .unset, .unset]) rfl k_) ?_
  show OGo p.tables e below _ (T56.setTop (mkF m 358 #[.val (.long q1), .second, .val (.long q2), .second, .val (.int p3), .val (.int p4), .val (.long lo), .second, .val (.long hi), .second, .val (.int sr), .val (.ref bz1), .val (.int hO), .val (.int hN), .val (.int hA), .val (.long mO), .second, .val (.long mN), .second, .val (.long ((((10000 : Int64) + sr.toInt64) - (1 : Int64)) / sr.toInt64)), .second, .val (.int v21), .unset, .unset, .unset] []))
  refine OGo.st (fun _ k_ => XS.iload X56.here hx rfl (hb hby at_358) rfl k_) ?_
  show OGo p.tables e below _ (T56.setTop (mkF m 360 #[.val (.long q1), .second, .val (.long q2), .second, .val (.int p3), .val (.int p4), .val (.long lo), .second, .val (.long hi), .second, .val (.int sr), .val (.ref bz1), .val (.int hO), .val (.int hN), .val (.int hA), .val (.long mO), .second, .val (.long mN), .second, .val (.long ((((10000 : Int64) + sr.toInt64) - (1 : Int64)) / sr.toInt64)), .second, .val (.int v21), .unset, .unset, .unset] [(.int hA)]))
  refine OGo.st (fun _ k_ => XS.i2l X56.here hx rfl (hb hby at_360) rfl k_) ?_
  show OGo p.tables e below _ (T56.setTop (mkF m 361 #[.val (.long q1), .second, .val (.long q2), .second, .val (.int p3), .val (.int p4), .val (.long lo), .second, .val (.long hi), .second, .val (.int sr), .val (.ref bz1), .val (.int hO), .val (.int hN), .val (.int hA), .val (.long mO), .second, .val (.long mN), .second, .val (.long ((((10000 : Int64) + sr.toInt64) - (1 : Int64)) / sr.toInt64)), .second, .val (.int v21), .unset, .unset, .unset] [(.long hA.toInt64)]))
  refine OGo.st (fun _ k_ => XS.lload X56.here hx rfl (hb hby at_361) rfl k_) ?_
  show OGo p.tables e below _ (T56.setTop (mkF m 363 #[.val (.long q1), .second, .val (.long q2), .second, .val (.int p3), .val (.int p4), .val (.long lo), .second, .val (.long hi), .second, .val (.int sr), .val (.ref bz1), .val (.int hO), .val (.int hN), .val (.int hA), .val (.long mO), .second, .val (.long mN), .second, .val (.long ((((10000 : Int64) + sr.toInt64) - (1 : Int64)) / sr.toInt64)), .second, .val (.int v21), .unset, .unset, .unset] [(.long hi), (.long hA.toInt64)]))
  refine OGo.st (fun _ k_ => XS.lmul X56.here hx rfl (hb hby at_363) rfl k_) ?_
  show OGo p.tables e below _ (T56.setTop (mkF m 364 #[.val (.long q1), .second, .val (.long q2), .second, .val (.int p3), .val (.int p4), .val (.long lo), .second, .val (.long hi), .second, .val (.int sr), .val (.ref bz1), .val (.int hO), .val (.int hN), .val (.int hA), .val (.long mO), .second, .val (.long mN), .second, .val (.long ((((10000 : Int64) + sr.toInt64) - (1 : Int64)) / sr.toInt64)), .second, .val (.int v21), .unset, .unset, .unset] [(.long (hA.toInt64 * hi))]))
  refine OGo.st (fun _ k_ => XS.bipush X56.here hx rfl (hb hby at_364) k_) ?_
  show OGo p.tables e below _ (T56.setTop (mkF m 366 #[.val (.long q1), .second, .val (.long q2), .second, .val (.int p3), .val (.int p4), .val (.long lo), .second, .val (.long hi), .second, .val (.int sr), .val (.ref bz1), .val (.int hO), .val (.int hN), .val (.int hA), .val (.long mO), .second, .val (.long mN), .second, .val (.long ((((10000 : Int64) + sr.toInt64) - (1 : Int64)) / sr.toInt64)), .second, .val (.int v21), .unset, .unset, .unset] [(.int (10 : Int32)), (.long (hA.toInt64 * hi))]))
  refine OGo.st (fun _ k_ => XS.iload X56.here hx rfl (hb hby at_366) rfl k_) ?_
  show OGo p.tables e below _ (T56.setTop (mkF m 368 #[.val (.long q1), .second, .val (.long q2), .second, .val (.int p3), .val (.int p4), .val (.long lo), .second, .val (.long hi), .second, .val (.int sr), .val (.ref bz1), .val (.int hO), .val (.int hN), .val (.int hA), .val (.long mO), .second, .val (.long mN), .second, .val (.long ((((10000 : Int64) + sr.toInt64) - (1 : Int64)) / sr.toInt64)), .second, .val (.int v21), .unset, .unset, .unset] [(.int hA), (.int (10 : Int32)), (.long (hA.toInt64 * hi))]))
  refine OGo.st (fun _ k_ => XS.isub X56.here hx rfl (hb hby at_368) rfl k_) ?_
  show OGo p.tables e below _ (T56.setTop (mkF m 369 #[.val (.long q1), .second, .val (.long q2), .second, .val (.int p3), .val (.int p4), .val (.long lo), .second, .val (.long hi), .second, .val (.int sr), .val (.ref bz1), .val (.int hO), .val (.int hN), .val (.int hA), .val (.long mO), .second, .val (.long mN), .second, .val (.long ((((10000 : Int64) + sr.toInt64) - (1 : Int64)) / sr.toInt64)), .second, .val (.int v21), .unset, .unset, .unset] [(.int ((10 : Int32) - hA)), (.long (hA.toInt64 * hi))]))
  refine OGo.st (fun _ k_ => XS.i2l X56.here hx rfl (hb hby at_369) rfl k_) ?_
  show OGo p.tables e below _ (T56.setTop (mkF m 370 #[.val (.long q1), .second, .val (.long q2), .second, .val (.int p3), .val (.int p4), .val (.long lo), .second, .val (.long hi), .second, .val (.int sr), .val (.ref bz1), .val (.int hO), .val (.int hN), .val (.int hA), .val (.long mO), .second, .val (.long mN), .second, .val (.long ((((10000 : Int64) + sr.toInt64) - (1 : Int64)) / sr.toInt64)), .second, .val (.int v21), .unset, .unset, .unset] [(.long ((10 : Int32) - hA).toInt64), (.long (hA.toInt64 * hi))]))
  refine OGo.st (fun _ k_ => XS.lload X56.here hx rfl (hb hby at_370) rfl k_) ?_
  show OGo p.tables e below _ (T56.setTop (mkF m 372 #[.val (.long q1), .second, .val (.long q2), .second, .val (.int p3), .val (.int p4), .val (.long lo), .second, .val (.long hi), .second, .val (.int sr), .val (.ref bz1), .val (.int hO), .val (.int hN), .val (.int hA), .val (.long mO), .second, .val (.long mN), .second, .val (.long ((((10000 : Int64) + sr.toInt64) - (1 : Int64)) / sr.toInt64)), .second, .val (.int v21), .unset, .unset, .unset] [(.long lo), (.long ((10 : Int32) - hA).toInt64), (.long (hA.toInt64 * hi))]))
  refine OGo.st (fun _ k_ => XS.lmul X56.here hx rfl (hb hby at_372) rfl k_) ?_
  show OGo p.tables e below _ (T56.setTop (mkF m 373 #[.val (.long q1), .second, .val (.long q2), .second, .val (.int p3), .val (.int p4), .val (.long lo), .second, .val (.long hi), .second, .val (.int sr), .val (.ref bz1), .val (.int hO), .val (.int hN), .val (.int hA), .val (.long mO), .second, .val (.long mN), .second, .val (.long ((((10000 : Int64) + sr.toInt64) - (1 : Int64)) / sr.toInt64)), .second, .val (.int v21), .unset, .unset, .unset] [(.long (((10 : Int32) - hA).toInt64 * lo)), (.long (hA.toInt64 * hi))]))
  refine OGo.st (fun _ k_ => XS.ladd X56.here hx rfl (hb hby at_373) rfl k_) ?_
  show OGo p.tables e below _ (T56.setTop (mkF m 374 #[.val (.long q1), .second, .val (.long q2), .second, .val (.int p3), .val (.int p4), .val (.long lo), .second, .val (.long hi), .second, .val (.int sr), .val (.ref bz1), .val (.int hO), .val (.int hN), .val (.int hA), .val (.long mO), .second, .val (.long mN), .second, .val (.long ((((10000 : Int64) + sr.toInt64) - (1 : Int64)) / sr.toInt64)), .second, .val (.int v21), .unset, .unset, .unset] [(.long ((hA.toInt64 * hi) + (((10 : Int32) - hA).toInt64 * lo)))]))
  obtain ⟨el2, hel2⟩ : ∃ z : Int64, z = ((hA.toInt64 * hi) + (((10 : Int32) - hA).toInt64 * lo)) := ⟨_, rfl⟩
  rw [← hel2]
  show OGo p.tables e below _ (T56.setTop (mkF m 374 #[.val (.long q1), .second, .val (.long q2), .second, .val (.int p3), .val (.int p4), .val (.long lo), .second, .val (.long hi), .second, .val (.int sr), .val (.ref bz1), .val (.int hO), .val (.int hN), .val (.int hA), .val (.long mO), .second, .val (.long mN), .second, .val (.long ((((10000 : Int64) + sr.toInt64) - (1 : Int64)) / sr.toInt64)), .second, .val (.int v21), .unset, .unset, .unset] [(.long el2)]))
  refine OGo.st (fun _ k_ => XS.lstore X56.here hx rfl (hb hby at_374) rfl (l' := #[.val (.long q1), .second, .val (.long q2), .second, .val (.int p3), .val (.int p4), .val (.long lo), .second, .val (.long hi), .second, .val (.int sr), .val (.ref bz1), .val (.int hO), .val (.int hN), .val (.int hA), .val (.long mO), .second, .val (.long mN), .second, .val (.long ((((10000 : Int64) + sr.toInt64) - (1 : Int64)) / sr.toInt64)), .second, .val (.int v21), .val (.long el2), .second, .unset]) rfl k_) ?_
  obtain ⟨v24, hvz60, st60⟩ : ∃ v24 : Int32, v24 = (if v21 = 0 then (if el2 < (120000000000 : Int64) then (0 : Int32) else (1 : Int32)) else (1 : Int32)) ∧ ∀ t, Steps p.tables e below (T56.setTop (mkF m 395 #[.val (.long q1), .second, .val (.long q2), .second, .val (.int p3), .val (.int p4), .val (.long lo), .second, .val (.long hi), .second, .val (.int sr), .val (.ref bz1), .val (.int hO), .val (.int hN), .val (.int hA), .val (.long mO), .second, .val (.long mN), .second, .val (.long ((((10000 : Int64) + sr.toInt64) - (1 : Int64)) / sr.toInt64)), .second, .val (.int v21), .val (.long el2), .second, .unset] [(.int v24)])) t → Steps p.tables e below (T56.setTop (mkF m 376 #[.val (.long q1), .second, .val (.long q2), .second, .val (.int p3), .val (.int p4), .val (.long lo), .second, .val (.long hi), .second, .val (.int sr), .val (.ref bz1), .val (.int hO), .val (.int hN), .val (.int hA), .val (.long mO), .second, .val (.long mN), .second, .val (.long ((((10000 : Int64) + sr.toInt64) - (1 : Int64)) / sr.toInt64)), .second, .val (.int v21), .val (.long el2), .second, .unset] [])) t := by
    refine ⟨_, rfl, fun t k => ?_⟩
    show Steps p.tables e below (T56.setTop (mkF m 376 #[.val (.long q1), .second, .val (.long q2), .second, .val (.int p3), .val (.int p4), .val (.long lo), .second, .val (.long hi), .second, .val (.int sr), .val (.ref bz1), .val (.int hO), .val (.int hN), .val (.int hA), .val (.long mO), .second, .val (.long mN), .second, .val (.long ((((10000 : Int64) + sr.toInt64) - (1 : Int64)) / sr.toInt64)), .second, .val (.int v21), .val (.long el2), .second, .unset] [])) _
    refine XS.iload X56.here hx rfl (hb hby at_376) rfl ?_
    show Steps p.tables e below (T56.setTop (mkF m 378 #[.val (.long q1), .second, .val (.long q2), .second, .val (.int p3), .val (.int p4), .val (.long lo), .second, .val (.long hi), .second, .val (.int sr), .val (.ref bz1), .val (.int hO), .val (.int hN), .val (.int hA), .val (.long mO), .second, .val (.long mN), .second, .val (.long ((((10000 : Int64) + sr.toInt64) - (1 : Int64)) / sr.toInt64)), .second, .val (.int v21), .val (.long el2), .second, .unset] [(.int v21)])) _
    by_cases hs378 : v21 = 0
    · rw [if_pos hs378] at k
      refine XS.ifNo X56.here hx rfl (hb hby at_378) rfl (XT.i0_ne_f hs378) ?_
      show Steps p.tables e below (T56.setTop (mkF m 381 #[.val (.long q1), .second, .val (.long q2), .second, .val (.int p3), .val (.int p4), .val (.long lo), .second, .val (.long hi), .second, .val (.int sr), .val (.ref bz1), .val (.int hO), .val (.int hN), .val (.int hA), .val (.long mO), .second, .val (.long mN), .second, .val (.long ((((10000 : Int64) + sr.toInt64) - (1 : Int64)) / sr.toInt64)), .second, .val (.int v21), .val (.long el2), .second, .unset] [])) _
      refine XS.lload X56.here hx rfl (hb hby at_381) rfl ?_
      show Steps p.tables e below (T56.setTop (mkF m 383 #[.val (.long q1), .second, .val (.long q2), .second, .val (.int p3), .val (.int p4), .val (.long lo), .second, .val (.long hi), .second, .val (.int sr), .val (.ref bz1), .val (.int hO), .val (.int hN), .val (.int hA), .val (.long mO), .second, .val (.long mN), .second, .val (.long ((((10000 : Int64) + sr.toInt64) - (1 : Int64)) / sr.toInt64)), .second, .val (.int v21), .val (.long el2), .second, .unset] [(.long el2)])) _
      refine X56.ldc2J hx hown (mvT hZ (hw _ (List.mem_of_getElem? (i := 35) rfl))) rfl (hb hby at_383) ?_
      show Steps p.tables e below (T56.setTop (mkF m 386 #[.val (.long q1), .second, .val (.long q2), .second, .val (.int p3), .val (.int p4), .val (.long lo), .second, .val (.long hi), .second, .val (.int sr), .val (.ref bz1), .val (.int hO), .val (.int hN), .val (.int hA), .val (.long mO), .second, .val (.long mN), .second, .val (.long ((((10000 : Int64) + sr.toInt64) - (1 : Int64)) / sr.toInt64)), .second, .val (.int v21), .val (.long el2), .second, .unset] [(.long (120000000000 : Int64)), (.long el2)])) _
      by_cases hs386 : el2 < (120000000000 : Int64)
      · rw [if_pos hs386] at k
        refine XT.lcmp X56.here hx rfl (hb hby at_386) rfl ?_
        show Steps p.tables e below (T56.setTop (mkF m 387 #[.val (.long q1), .second, .val (.long q2), .second, .val (.int p3), .val (.int p4), .val (.long lo), .second, .val (.long hi), .second, .val (.int sr), .val (.ref bz1), .val (.int hO), .val (.int hN), .val (.int hA), .val (.long mO), .second, .val (.long mN), .second, .val (.long ((((10000 : Int64) + sr.toInt64) - (1 : Int64)) / sr.toInt64)), .second, .val (.int v21), .val (.long el2), .second, .unset] [(.int (XT.cmpL el2 (120000000000 : Int64)))])) _
        refine XS.ifYes X56.here hx rfl (pc0 := 387) (pc' := 394) rfl (hb hby at_387) rfl (XT.ll_lt_t hs386) (by decide) (by decide) ?_
        show Steps p.tables e below (T56.setTop (mkF m 394 #[.val (.long q1), .second, .val (.long q2), .second, .val (.int p3), .val (.int p4), .val (.long lo), .second, .val (.long hi), .second, .val (.int sr), .val (.ref bz1), .val (.int hO), .val (.int hN), .val (.int hA), .val (.long mO), .second, .val (.long mN), .second, .val (.long ((((10000 : Int64) + sr.toInt64) - (1 : Int64)) / sr.toInt64)), .second, .val (.int v21), .val (.long el2), .second, .unset] [])) _
        refine XS.iconst X56.here hx rfl (hb hby at_394) ?_
        exact k
      · rw [if_neg hs386] at k
        refine XT.lcmp X56.here hx rfl (hb hby at_386) rfl ?_
        show Steps p.tables e below (T56.setTop (mkF m 387 #[.val (.long q1), .second, .val (.long q2), .second, .val (.int p3), .val (.int p4), .val (.long lo), .second, .val (.long hi), .second, .val (.int sr), .val (.ref bz1), .val (.int hO), .val (.int hN), .val (.int hA), .val (.long mO), .second, .val (.long mN), .second, .val (.long ((((10000 : Int64) + sr.toInt64) - (1 : Int64)) / sr.toInt64)), .second, .val (.int v21), .val (.long el2), .second, .unset] [(.int (XT.cmpL el2 (120000000000 : Int64)))])) _
        refine XS.ifNo X56.here hx rfl (hb hby at_387) rfl (XT.ll_lt_f hs386) ?_
        show Steps p.tables e below (T56.setTop (mkF m 390 #[.val (.long q1), .second, .val (.long q2), .second, .val (.int p3), .val (.int p4), .val (.long lo), .second, .val (.long hi), .second, .val (.int sr), .val (.ref bz1), .val (.int hO), .val (.int hN), .val (.int hA), .val (.long mO), .second, .val (.long mN), .second, .val (.long ((((10000 : Int64) + sr.toInt64) - (1 : Int64)) / sr.toInt64)), .second, .val (.int v21), .val (.long el2), .second, .unset] [])) _
        refine XS.iconst X56.here hx rfl (hb hby at_390) ?_
        show Steps p.tables e below (T56.setTop (mkF m 391 #[.val (.long q1), .second, .val (.long q2), .second, .val (.int p3), .val (.int p4), .val (.long lo), .second, .val (.long hi), .second, .val (.int sr), .val (.ref bz1), .val (.int hO), .val (.int hN), .val (.int hA), .val (.long mO), .second, .val (.long mN), .second, .val (.long ((((10000 : Int64) + sr.toInt64) - (1 : Int64)) / sr.toInt64)), .second, .val (.int v21), .val (.long el2), .second, .unset] [(.int (1 : Int32))])) _
        refine XS.goto X56.here hx rfl (pc0 := 391) (pc' := 395) rfl (hb hby at_391) (by decide) (by decide) ?_
        exact k
    · rw [if_neg hs378] at k
      refine XS.ifYes X56.here hx rfl (pc0 := 378) (pc' := 390) rfl (hb hby at_378) rfl (XT.i0_ne_t hs378) (by decide) (by decide) ?_
      show Steps p.tables e below (T56.setTop (mkF m 390 #[.val (.long q1), .second, .val (.long q2), .second, .val (.int p3), .val (.int p4), .val (.long lo), .second, .val (.long hi), .second, .val (.int sr), .val (.ref bz1), .val (.int hO), .val (.int hN), .val (.int hA), .val (.long mO), .second, .val (.long mN), .second, .val (.long ((((10000 : Int64) + sr.toInt64) - (1 : Int64)) / sr.toInt64)), .second, .val (.int v21), .val (.long el2), .second, .unset] [])) _
      refine XS.iconst X56.here hx rfl (hb hby at_390) ?_
      show Steps p.tables e below (T56.setTop (mkF m 391 #[.val (.long q1), .second, .val (.long q2), .second, .val (.int p3), .val (.int p4), .val (.long lo), .second, .val (.long hi), .second, .val (.int sr), .val (.ref bz1), .val (.int hO), .val (.int hN), .val (.int hA), .val (.long mO), .second, .val (.long mN), .second, .val (.long ((((10000 : Int64) + sr.toInt64) - (1 : Int64)) / sr.toInt64)), .second, .val (.int v21), .val (.long el2), .second, .unset] [(.int (1 : Int32))])) _
      refine XS.goto X56.here hx rfl (pc0 := 391) (pc' := 395) rfl (hb hby at_391) (by decide) (by decide) ?_
      exact k
  refine OGo.st st60 ?_
  have eO := own_medO hhO hvz57
  have eN := own_medN hhN hvz58
  have q21 := own_fin1 eN eO hvz59
  have qel : ee9 = el2 := by rw [hee9, hee8, hee7, hee6, hee5, hee4, hee3, hee2, hee1, hee0]; exact own_fin2 hlo_ hhi_ hhO hhN hhA hel2
  show OGo p.tables e below _ (T56.setTop (mkF m 395 #[.val (.long q1), .second, .val (.long q2), .second, .val (.int p3), .val (.int p4), .val (.long lo), .second, .val (.long hi), .second, .val (.int sr), .val (.ref bz1), .val (.int hO), .val (.int hN), .val (.int hA), .val (.long mO), .second, .val (.long mN), .second, .val (.long ((((10000 : Int64) + sr.toInt64) - (1 : Int64)) / sr.toInt64)), .second, .val (.int v21), .val (.long el2), .second, .unset] [(.int v24)]))
  refine OGo.st (fun _ k_ => XS.istore X56.here hx rfl (hb hby at_395) rfl (l' := #[.val (.long q1), .second, .val (.long q2), .second, .val (.int p3), .val (.int p4), .val (.long lo), .second, .val (.long hi), .second, .val (.int sr), .val (.ref bz1), .val (.int hO), .val (.int hN), .val (.int hA), .val (.long mO), .second, .val (.long mN), .second, .val (.long ((((10000 : Int64) + sr.toInt64) - (1 : Int64)) / sr.toInt64)), .second, .val (.int v21), .val (.long el2), .second, .val (.int v24)]) rfl k_) ?_
  show OGo p.tables e below _ (T56.setTop (mkF m 397 #[.val (.long q1), .second, .val (.long q2), .second, .val (.int p3), .val (.int p4), .val (.long lo), .second, .val (.long hi), .second, .val (.int sr), .val (.ref bz1), .val (.int hO), .val (.int hN), .val (.int hA), .val (.long mO), .second, .val (.long mN), .second, .val (.long ((((10000 : Int64) + sr.toInt64) - (1 : Int64)) / sr.toInt64)), .second, .val (.int v21), .val (.long el2), .second, .val (.int v24)] []))
  refine OGo.st (fun _ k_ => XS.aload X56.here hx rfl (hb hby at_397) rfl rfl k_) ?_
  show OGo p.tables e below _ (T56.setTop (mkF m 399 #[.val (.long q1), .second, .val (.long q2), .second, .val (.int p3), .val (.int p4), .val (.long lo), .second, .val (.long hi), .second, .val (.int sr), .val (.ref bz1), .val (.int hO), .val (.int hN), .val (.int hA), .val (.long mO), .second, .val (.long mN), .second, .val (.long ((((10000 : Int64) + sr.toInt64) - (1 : Int64)) / sr.toInt64)), .second, .val (.int v21), .val (.long el2), .second, .val (.int v24)] [(.ref bz1)]))
  obtain ⟨cq61, kqz61, qz61a, qz61b, qz61c⟩ := isOf hZ ez56 Ex_44
  obtain ⟨_, _, ⟨T61, Lz61, kz61, nz61⟩, -, X61, ⟨Lc61, hQ61, lz61, yz61, zz61⟩, st61⟩ := X56.virtualBack hx (y := (⟨"com/example/locator/locator/cli/WarmUp", "settled", "()Z"⟩ : MethodName)) (z := (⟨"com/example/locator/locator/cli/WarmUp", "settled", "()Z"⟩ : MethodName)) hown (mvT hZ (hw _ (List.mem_of_getElem? (i := 36) rfl))) (mvT hZ (hw _ (List.mem_of_getElem? (i := 37) rfl))) (notFace_of_selects (args := #[]) (mvT hZ (hw _ (List.mem_of_getElem? (i := 39) rfl)))) (mvT hZ (hw _ (List.mem_of_getElem? (i := 39) rfl))) (mvT hZ (hw _ (List.mem_of_getElem? (i := 38) rfl))) (by decide) (backOf (W := 0) (rm12 l Z a0 hw [] bz1 rc3 kq3 (own_W p3 lo hi) lo hi (own_need sr) ee9 T43.heap n0 (Nat.le_trans Z0 K_45.1) Ex_44 f1_43 f2_43 f3_43 f4_43 Af_46 hhi_.1 (own_Wv p3 lo hi)) hZ (hw _ (List.mem_of_getElem? (i := 40) rfl)) (hw _ (List.mem_of_getElem? (i := 4) rfl)) (by decide) (by decide)) qz61a qz61c (g := (mkF m 399 #[.val (.long q1), .second, .val (.long q2), .second, .val (.int p3), .val (.int p4), .val (.long lo), .second, .val (.long hi), .second, .val (.int sr), .val (.ref bz1), .val (.int hO), .val (.int hN), .val (.int hA), .val (.long mO), .second, .val (.long mN), .second, .val (.long ((((10000 : Int64) + sr.toInt64) - (1 : Int64)) / sr.toInt64)), .second, .val (.int v21), .val (.long el2), .second, .val (.int v24)] [(.ref bz1)])) rfl (by rw [hml]; rfl) (Steps.refl _) (argsL := []) (rest := []) (lenOf own_pd7 rfl) rfl (by show 2 * 0 + _ ≤ _; exact Nat.le_of_eq rfl) (hb hby at_399) (fun _ _ => ⟨rfl, ez56, (by decide : 2 + 2 ≤ _), (by decide : 14 + 10 ≤ _)⟩)
  dsimp only [Pt.U, Pt.locs, Pt.cells, Pt.slots] at X61 lz61 yz61 zz61 st61 hQ61
  have X61 := own_reb X61 lz61 yz61 zz61
  have X61 : Stand p l e room_1 s m #[(.long q1), (.long q2), (.int p3), (.int p4)] below meth c T61 _ 4 24 := X61
  obtain ⟨hvq61, Nq61, Kq61⟩ := hQ61
  rw [hvq61] at st61
  have N61 := Fr.app N56 Nq61
  have Ex_62 := Ex_44.keep Kq61
  have F_63 := f1_43.keep Kq61 nin0
  have F_64 := f2_43.keep Kq61 nin0
  have F_65 := f3_43.keep Kq61 nin0
  have F_66 := f4_43.keep Kq61 nin0
  have Af_67 := Af_46.keep Kq61 nin0
  have K_68 : Keep h0 T61.heap [] := K_45.trans Kq61 all0
  refine OGo.tr st61 ?_
  show OGo p.tables e below _ (T61.setTop (mkF m 402 #[.val (.long q1), .second, .val (.long q2), .second, .val (.int p3), .val (.int p4), .val (.long lo), .second, .val (.long hi), .second, .val (.int sr), .val (.ref bz1), .val (.int hO), .val (.int hN), .val (.int hA), .val (.long mO), .second, .val (.long mN), .second, .val (.long ((((10000 : Int64) + sr.toInt64) - (1 : Int64)) / sr.toInt64)), .second, .val (.int v21), .val (.long el2), .second, .val (.int v24)] [(.int (own_stl (own_need sr) (own_med (own_cnt hi (fun i => (own_W p3 lo hi) (5 + i))) lo hi) (own_med (own_cnt hi (fun i => (own_W p3 lo hi) (0 + i))) lo hi)))]))
  refine OGo.st (fun _ k_ => XS.iload X61.here hx rfl (hb hby at_402) rfl k_) ?_
  show OGo p.tables e below _ (T61.setTop (mkF m 404 #[.val (.long q1), .second, .val (.long q2), .second, .val (.int p3), .val (.int p4), .val (.long lo), .second, .val (.long hi), .second, .val (.int sr), .val (.ref bz1), .val (.int hO), .val (.int hN), .val (.int hA), .val (.long mO), .second, .val (.long mN), .second, .val (.long ((((10000 : Int64) + sr.toInt64) - (1 : Int64)) / sr.toInt64)), .second, .val (.int v21), .val (.long el2), .second, .val (.int v24)] [(.int v21), (.int (own_stl (own_need sr) (own_med (own_cnt hi (fun i => (own_W p3 lo hi) (5 + i))) lo hi) (own_med (own_cnt hi (fun i => (own_W p3 lo hi) (0 + i))) lo hi)))]))
  refine OGo.st (fun _ k_ => XS.icmpNo X61.here hx rfl (hb hby at_404) rfl (XT.ii_ne_f q21) k_) ?_
  show OGo p.tables e below _ (T61.setTop (mkF m 407 #[.val (.long q1), .second, .val (.long q2), .second, .val (.int p3), .val (.int p4), .val (.long lo), .second, .val (.long hi), .second, .val (.int sr), .val (.ref bz1), .val (.int hO), .val (.int hN), .val (.int hA), .val (.long mO), .second, .val (.long mN), .second, .val (.long ((((10000 : Int64) + sr.toInt64) - (1 : Int64)) / sr.toInt64)), .second, .val (.int v21), .val (.long el2), .second, .val (.int v24)] []))
  refine OGo.st (fun _ k_ => XS.aload X61.here hx rfl (hb hby at_407) rfl rfl k_) ?_
  show OGo p.tables e below _ (T61.setTop (mkF m 409 #[.val (.long q1), .second, .val (.long q2), .second, .val (.int p3), .val (.int p4), .val (.long lo), .second, .val (.long hi), .second, .val (.int sr), .val (.ref bz1), .val (.int hO), .val (.int hN), .val (.int hA), .val (.long mO), .second, .val (.long mN), .second, .val (.long ((((10000 : Int64) + sr.toInt64) - (1 : Int64)) / sr.toInt64)), .second, .val (.int v21), .val (.long el2), .second, .val (.int v24)] [(.ref bz1)]))
  obtain ⟨cq69, kqz69, qz69a, qz69b, qz69c⟩ := isOf hZ rfl Ex_62
  obtain ⟨_, _, ⟨T69, Lz69, kz69, nz69⟩, -, X69, ⟨Lc69, hQ69, lz69, yz69, zz69⟩, st69⟩ := X61.virtualBack hx (y := (⟨"com/example/locator/locator/cli/WarmUp", "done", "()Z"⟩ : MethodName)) (z := (⟨"com/example/locator/locator/cli/WarmUp", "done", "()Z"⟩ : MethodName)) hown (mvT hZ (hw _ (List.mem_of_getElem? (i := 45) rfl))) (mvT hZ (hw _ (List.mem_of_getElem? (i := 46) rfl))) (notFace_of_selects (args := #[]) (mvT hZ (hw _ (List.mem_of_getElem? (i := 48) rfl)))) (mvT hZ (hw _ (List.mem_of_getElem? (i := 48) rfl))) (mvT hZ (hw _ (List.mem_of_getElem? (i := 47) rfl))) (by decide) (backOf (W := 0) (rm13 l Z a0 hw [] bz1 rc3 kq3 (own_W p3 lo hi) lo hi (own_need sr) ee9 T61.heap n0 (Nat.le_trans Z0 K_68.1) Ex_62 F_63 F_64 F_65 F_66 Af_67 hhi_.1 (own_Wv p3 lo hi) (own_sta_keep S_LIMIT_NANOS K_68)) hZ (hw _ (List.mem_of_getElem? (i := 49) rfl)) (hw _ (List.mem_of_getElem? (i := 4) rfl)) (by decide) (by decide)) qz69a qz69c (g := (mkF m 409 #[.val (.long q1), .second, .val (.long q2), .second, .val (.int p3), .val (.int p4), .val (.long lo), .second, .val (.long hi), .second, .val (.int sr), .val (.ref bz1), .val (.int hO), .val (.int hN), .val (.int hA), .val (.long mO), .second, .val (.long mN), .second, .val (.long ((((10000 : Int64) + sr.toInt64) - (1 : Int64)) / sr.toInt64)), .second, .val (.int v21), .val (.long el2), .second, .val (.int v24)] [(.ref bz1)])) rfl (by rw [hml]; rfl) (Steps.refl _) (argsL := []) (rest := []) (lenOf own_pd7 rfl) rfl (by show 2 * 0 + _ ≤ _; exact Nat.le_of_eq rfl) (hb hby at_409) (fun _ _ => ⟨rfl, rfl, (by decide : 4 + 2 ≤ _), (by decide : 24 + 10 ≤ _)⟩)
  dsimp only [Pt.U, Pt.locs, Pt.cells, Pt.slots] at X69 lz69 yz69 zz69 st69 hQ69
  have X69 := own_reb X69 lz69 yz69 zz69
  have X69 : Stand p l e room_1 s m #[(.long q1), (.long q2), (.int p3), (.int p4)] below meth c T69 _ 6 34 := X69
  obtain ⟨hvq69, Nq69, Kq69⟩ := hQ69
  rw [hvq69] at st69
  have N69 := Fr.app N61 Nq69
  have Ex_70 := Ex_62.keep Kq69
  have F_71 := F_63.keep Kq69 nin0
  have F_72 := F_64.keep Kq69 nin0
  have F_73 := F_65.keep Kq69 nin0
  have F_74 := F_66.keep Kq69 nin0
  have Af_75 := Af_67.keep Kq69 nin0
  have K_76 : Keep h0 T69.heap [] := K_68.trans Kq69 all0
  refine OGo.tr st69 ?_
  show OGo p.tables e below _ (T69.setTop (mkF m 412 #[.val (.long q1), .second, .val (.long q2), .second, .val (.int p3), .val (.int p4), .val (.long lo), .second, .val (.long hi), .second, .val (.int sr), .val (.ref bz1), .val (.int hO), .val (.int hN), .val (.int hA), .val (.long mO), .second, .val (.long mN), .second, .val (.long ((((10000 : Int64) + sr.toInt64) - (1 : Int64)) / sr.toInt64)), .second, .val (.int v21), .val (.long el2), .second, .val (.int v24)] [(.int (own_dn (own_stl (own_need sr) (own_med (own_cnt hi (fun i => (own_W p3 lo hi) (5 + i))) lo hi) (own_med (own_cnt hi (fun i => (own_W p3 lo hi) (0 + i))) lo hi)) ee9))]))
  refine OGo.st (fun _ k_ => XS.iload X69.here hx rfl (hb hby at_412) rfl k_) ?_
  show OGo p.tables e below _ (T69.setTop (mkF m 414 #[.val (.long q1), .second, .val (.long q2), .second, .val (.int p3), .val (.int p4), .val (.long lo), .second, .val (.long hi), .second, .val (.int sr), .val (.ref bz1), .val (.int hO), .val (.int hN), .val (.int hA), .val (.long mO), .second, .val (.long mN), .second, .val (.long ((((10000 : Int64) + sr.toInt64) - (1 : Int64)) / sr.toInt64)), .second, .val (.int v21), .val (.long el2), .second, .val (.int v24)] [(.int v24), (.int (own_dn (own_stl (own_need sr) (own_med (own_cnt hi (fun i => (own_W p3 lo hi) (5 + i))) lo hi) (own_med (own_cnt hi (fun i => (own_W p3 lo hi) (0 + i))) lo hi)) ee9))]))
  refine OGo.st (fun _ k_ => XS.icmpNo X69.here hx rfl (hb hby at_414) rfl (XT.ii_ne_f (own_fin3 q21 qel hvz60)) k_) ?_
  show OGo p.tables e below _ (T69.setTop (mkF m 417 #[.val (.long q1), .second, .val (.long q2), .second, .val (.int p3), .val (.int p4), .val (.long lo), .second, .val (.long hi), .second, .val (.int sr), .val (.ref bz1), .val (.int hO), .val (.int hN), .val (.int hA), .val (.long mO), .second, .val (.long mN), .second, .val (.long ((((10000 : Int64) + sr.toInt64) - (1 : Int64)) / sr.toInt64)), .second, .val (.int v21), .val (.long el2), .second, .val (.int v24)] []))
  refine OGo.st (fun _ k_ => XS.iconst X69.here hx rfl (hb hby at_417) k_) ?_
  show OGo p.tables e below _ (T69.setTop (mkF m 418 #[.val (.long q1), .second, .val (.long q2), .second, .val (.int p3), .val (.int p4), .val (.long lo), .second, .val (.long hi), .second, .val (.int sr), .val (.ref bz1), .val (.int hO), .val (.int hN), .val (.int hA), .val (.long mO), .second, .val (.long mN), .second, .val (.long ((((10000 : Int64) + sr.toInt64) - (1 : Int64)) / sr.toInt64)), .second, .val (.int v21), .val (.long el2), .second, .val (.int v24)] [(.int (1 : Int32))]))
  refine OGo.st (fun _ k_ => XS.goto X69.here hx rfl (pc0 := 418) (pc' := 422) rfl (hb hby at_418) (by decide) (by decide) k_) ?_
  show OGo p.tables e below _ (T69.setTop (mkF m 422 #[.val (.long q1), .second, .val (.long q2), .second, .val (.int p3), .val (.int p4), .val (.long lo), .second, .val (.long hi), .second, .val (.int sr), .val (.ref bz1), .val (.int hO), .val (.int hN), .val (.int hA), .val (.long mO), .second, .val (.long mN), .second, .val (.long ((((10000 : Int64) + sr.toInt64) - (1 : Int64)) / sr.toInt64)), .second, .val (.int v21), .val (.long el2), .second, .val (.int v24)] [(.int (1 : Int32))]))
  refine OGo.fin X69 (v := some (.int (1 : Int32))) (fun h => by rw [Bd.returns] at h; cases h) hlk (fun fs hr => X69.ireturnOut hx Bd.returns rfl (by simp) (hb hby at_422) hr) ?_ (by decide) (by decide)
  show own_Q_rm0 Z q1 q2 p3 p4 h0 n0 _ T69.heap _
  skip
  exact ⟨rfl, N69⟩
set_option maxRecDepth 65536 in
set_option maxHeartbeats 40000000 in
theorem comes_1 {Post : Tables → Env → Array Value → State → Outcome → State → Prop} (hpost : ∀ tb e args s v u, (limb_1_1.after args s (.returned v) u = true ∧ limb_1_2.after args s (.returned v) u = true ∧ True) → FrameEnd s (.returned v) u (Jvm.fieldLocs frame_1_writes args s ++ Jvm.arrayLocs frame_1_arrays args s ++ Jvm.staticLocs frame_1_statics s) 24 192 → Post tb e args s (.returned v) u) :
    ArmFor flags0 classFile x code maxLocals ret World_1 tables_1 room_1 Calls_1 rest_1 Pre_1 Post := by
  intro l hfl _ _ p e ha hc hk s m args below hf hA hF happ hP
  obtain ⟨hcalls, hrest, hpre⟩ := hP
  obtain ⟨-, -, -, hnamed, -, -, -, hat⟩ := (Spec.applies_iff hf).mp happ
  obtain ⟨hg, hn⟩ := and_e (Cond.before_iff.mp (show (Jvm.Cond.and given_1 narrow_1).before args s = true from hpre))
  obtain ⟨g0, r0⟩ := and_e hg
  obtain ⟨a0, r1⟩ := and_e r0
  obtain ⟨a1, r2⟩ := and_e r1
  obtain ⟨a2, r3⟩ := and_e r2
  obtain ⟨w0, w1, w2, w3, rfl⟩ : ∃ w0 w1 w2 w3 : Value, args = #[w0, w1, w2, w3] := by
    have hs : args.size = 4 := by simpa [Cond.value, given_1] using g0
    obtain ⟨L⟩ := args
    match L, hs with
    | [w0, w1, w2, w3], _ => exact ⟨w0, w1, w2, w3, rfl⟩
  have hw := fun d (hd : d ∈ tables_1) => atoms_spec (ws := Jvm.Cond.code x code maxLocals ret :: tables_1) hat d (List.mem_cons_of_mem _ hd)
  have hfit : Fit s := fun {y c} hc i hi => by
    obtain ⟨ha, rfl⟩ := Array.getElem?_eq_some_iff.mp hc
    have q := List.all_eq_true.mp ((Array.all_eq_true_iff_forall_mem.mp hF) _ (Array.getElem_mem ha)) i (List.mem_range.mpr hi)
    simpa [Array.getElem?_eq_getElem hi] using q
  obtain ⟨i0, ei0⟩ := isL_v a0
  obtain rfl : w0 = (.long i0) := Option.some.inj ei0
  obtain ⟨i1, ei1⟩ := isL_v a1
  obtain rfl : w1 = (.long i1) := Option.some.inj ei1
  obtain ⟨i2, ei2⟩ := is_v a2
  obtain rfl : w2 = (.int i2) := Option.some.inj ei2
  obtain ⟨i3, ei3⟩ := is_v r3
  obtain rfl : w3 = (.int i3) := Option.some.inj ei3
  have S0 : Sta s s.heap "com/example/locator/locator/cli/WarmUp" "LIMIT_NANOS" "J" (.long (120000000000 : Int64)) := own_stal hn (Or.inr ⟨(hw _ (List.mem_of_getElem? (i := 4) rfl)), (hw _ (List.mem_of_getElem? (i := 52) rfl))⟩)
  obtain ⟨n, o, h1, h2, h3, _, L, rfl, ⟨rfl, N⟩, hq⟩ := rm0 l s _ hw tables_1 i0 i1 i2 i3  s.heap s.heap.size (Nat.le_refl _) S0 p e ha hc hk s m _ below hf ((Spec.applies_iff_loose hf).mp happ).1 ⟨rfl, State.Warmed39.refl s, rfl⟩ trivial
  refine ⟨n, _, h1, h2, h3, hpost _ _ _ _ _ _ ⟨Cond.after_iff.mpr rfl, Cond.after_iff.mpr (eq_i res_at (Term.int_eval (1)) rfl), trivial⟩ ⟨hq.1, hq.2.1, (hq.2.2.sift fun y hy => Or.inr (N y hy)).mono (by decide) (by decide)⟩⟩
theorem main_1_1 : Claimed_1_1 := comes_1 fun _ _ _ _ _ _ h hF => ⟨h.1, hF⟩
theorem main_1_2 : Claimed_1_2 := comes_1 fun _ _ _ _ _ _ h hF => ⟨h.2.1, hF⟩
end Jvm.Pilot.@@N@@
namespace Jvm.Pilot.@@N@@
open Jvm Jvm.ClassFile Sem Op Lib Jvm.Free Jvm.Stand Jvm.Pilot.@@N@@.Jvm.D
/-! MADE BY PROGRAM (witnessworld.py) out of the Statement's table words and the real class files: 14 classes; the members and pool entries that the words name. The judged class is class 1, her method 3. -/
namespace start1
open Jvm.ClassFile
def u (s : String) : CpInfo := .utf8 (stringToUtf16 s)
/-- a pool by its gaps: so many unusable entries, then the entry; so many at the end -/
def gap : Nat → List CpInfo → List CpInfo
  | 0, r => r
  | n + 1, r => .unusable :: gap n r
def poolList (es : List (Nat × CpInfo)) (last : Nat) : List CpInfo := es.foldr (fun e r => gap e.1 (e.2 :: r)) (gap last [])
def pool (es : List (Nat × CpInfo)) (last : Nat) : Array CpInfo := ⟨poolList es last⟩
def fileOf (pool : Array CpInfo) (this : Nat) (attrs : Array Attribute := #[]) (ms : Array MethodInfo := #[]) (fl : Nat := 33) (sup : Nat := 0) (ifs : Array Nat := #[]) (fds : Array FieldInfo := #[]) : ClassFile where
  minorVersion := 0
  majorVersion := 65
  constantPool := pool
  accessFlags := fl
  thisClass := this
  superClass := sup
  interfaces := ifs
  fields := fds
  methods := ms
  attributes := attrs
def plain (name : String) (sup : Option ClassId) : Class where
  name := name
  kind := .ordinary
  loader := none
  accessFlags := 33
  super := sup
  interfaces := #[]
  cf := none
  fields := #[]
  methods := #[]
  instanceTypes := #[]
  staticTypes := #[]
  resolved := #[]
  callSites := []
  init := .initialized
  statics := none
  mirror := none

def pool0 : Array CpInfo := pool [(5, u "<init>"), (0, u "()V"), (1, .class_ 10), (1, u "java/lang/Object")] 113

def k0c0 : Code := { maxStack := 0, maxLocals := 1, code := object_method_1_code, exceptionTable := #[], attributes := #[] }
def k0m0 : Method := { name := "<init>", desc := "()V", sig := { parameters := [], returnType := none }, accessFlags := 1, code := some k0c0 }
/-- java/lang/Object -/
def k0 : Class := { plain "java/lang/Object" none with
  accessFlags := 33
  interfaces := #[]
  cf := some (fileOf pool0 8 #[] #[{ accessFlags := 1, nameIndex := 5, descriptorIndex := 6, attributes := #[] }] 33 0 #[] #[])
  fields := #[]
  methods := #[k0m0]
  instanceTypes := #[]
  staticTypes := #[]
  resolved := Array.replicate 124 none
  statics := none }

def pool1 : Array CpInfo := pool [(2, .class_ 4), (1, u "java/lang/Object"), (0, u "<init>"), (0, u "()V"), (0, .methodref 8 9), (0, .class_ 10), (0, .nameAndType 11 12), (0, u "com/example/locator/locator/cli/WarmUpPassedPinLaw"), (0, u "bit"), (0, u "(II)I"), (2, .long 9223372036854775807), (1, .long 30000000000), (1, .class_ 20), (0, u "com/example/locator/locator/cli/WarmUp"), (0, .methodref 19 22), (0, .nameAndType 5 23), (0, u "(I)V"), (0, .methodref 8 25), (0, .nameAndType 26 27), (0, u "pick"), (0, u "(IIJJ)J"), (0, .methodref 19 29), (0, .nameAndType 30 31), (0, u "passed"), (0, u "(J)V"), (0, .long 10000), (1, .long 10), (1, .double 4606281698874543309), (1, .long 120000000000), (1, .methodref 19 41), (0, .nameAndType 42 43), (0, u "settled"), (0, u "()Z"), (0, .methodref 19 45), (0, .nameAndType 46 43), (0, u "done"), (3, u "law"), (0, u "(JJII)Z")] 2

def k1m0 : Method := { name := "<init>", desc := "()V", sig := { parameters := [], returnType := none }, accessFlags := 2, code := none }
def k1c1 : Code := { maxStack := 2, maxLocals := 2, code := method_2_code, exceptionTable := #[], attributes := #[] }
def k1m1 : Method := { name := "bit", desc := "(II)I", sig := { parameters := [.int, .int], returnType := some .int }, accessFlags := 10, code := some k1c1 }
def k1c2 : Code := { maxStack := 2, maxLocals := 6, code := method_3_code, exceptionTable := #[], attributes := #[] }
def k1m2 : Method := { name := "pick", desc := "(IIJJ)J", sig := { parameters := [.int, .int, .long, .long], returnType := some .long }, accessFlags := 10, code := some k1c2 }
def k1c3 : Code := { maxStack := 7, maxLocals := 25, code := code, exceptionTable := #[], attributes := #[] }
def k1m3 : Method := { name := "law", desc := "(JJII)Z", sig := { parameters := [.long, .long, .int, .int], returnType := some .boolean }, accessFlags := 9, code := some k1c3 }
/-- com/example/locator/locator/cli/WarmUpPassedPinLaw -/
def k1 : Class := { plain "com/example/locator/locator/cli/WarmUpPassedPinLaw" (some 0) with
  accessFlags := 49
  interfaces := #[]
  cf := some (fileOf pool1 8 #[] #[{ accessFlags := 2, nameIndex := 5, descriptorIndex := 6, attributes := #[] }, { accessFlags := 10, nameIndex := 11, descriptorIndex := 12, attributes := #[] }, { accessFlags := 10, nameIndex := 26, descriptorIndex := 27, attributes := #[] }, { accessFlags := 9, nameIndex := 50, descriptorIndex := 51, attributes := #[] }] 49 2 #[] #[])
  fields := #[]
  methods := #[k1m0, k1m1, k1m2, k1m3]
  instanceTypes := #[]
  staticTypes := #[]
  resolved := Array.replicate 54 none
  statics := none }

def pool2 : Array CpInfo := pool [(1, .methodref 2 3), (0, .class_ 4), (0, .nameAndType 5 6), (0, u "java/lang/Object"), (0, u "<init>"), (0, u "()V"), (0, .class_ 8), (0, u "com/example/locator/locator/cli/WarmUp"), (0, .fieldref 7 10), (0, .nameAndType 11 12), (0, u "recent"), (0, u "[J"), (9, .long 10000), (1, .fieldref 7 25), (0, .nameAndType 26 27), (0, u "passesNeeded"), (0, u "J"), (0, .fieldref 7 29), (0, .nameAndType 30 27), (0, u "passes"), (0, .fieldref 7 32), (0, .nameAndType 33 27), (0, u "elapsed"), (0, .methodref 35 36), (0, .class_ 37), (0, .nameAndType 38 39), (0, u "java/lang/Math"), (0, u "max"), (0, u "(JJ)J"), (0, .methodref 7 41), (0, .nameAndType 42 43), (0, u "median"), (0, u "(I)J"), (0, .double 4606281698874543309), (1, .methodref 7 47), (0, .nameAndType 48 49), (0, u "settled"), (0, u "()Z"), (0, .fieldref 7 51), (0, .nameAndType 52 27), (0, u "LIMIT_NANOS"), (0, .methodref 54 55), (0, .class_ 56), (0, .nameAndType 57 58), (0, u "java/util/Arrays"), (0, u "sort"), (0, u "([J)V"), (12, u "SEARCHES"), (1, u "WINDOW"), (0, u "I"), (1, u "STEADY"), (0, u "D"), (0, u "(I)V"), (3, u "passed"), (0, u "(J)V"), (0, u "done")] 19

def k2c0 : Code := { maxStack := 5, maxLocals := 2, code := prog_120_method_1_code, exceptionTable := #[], attributes := #[] }
def k2m0 : Method := { name := "<init>", desc := "(I)V", sig := { parameters := [.int], returnType := none }, accessFlags := 0, code := some k2c0 }
def k2c1 : Code := { maxStack := 5, maxLocals := 3, code := prog_120_method_2_code, exceptionTable := #[], attributes := #[] }
def k2m1 : Method := { name := "passed", desc := "(J)V", sig := { parameters := [.long], returnType := none }, accessFlags := 0, code := some k2c1 }
def k2c2 : Code := { maxStack := 6, maxLocals := 1, code := prog_120_method_3_code, exceptionTable := #[], attributes := #[] }
def k2m2 : Method := { name := "settled", desc := "()Z", sig := { parameters := [], returnType := some .boolean }, accessFlags := 0, code := some k2c2 }
def k2c3 : Code := { maxStack := 4, maxLocals := 1, code := prog_120_method_4_code, exceptionTable := #[], attributes := #[] }
def k2m3 : Method := { name := "done", desc := "()Z", sig := { parameters := [], returnType := some .boolean }, accessFlags := 0, code := some k2c3 }
def k2c4 : Code := { maxStack := 7, maxLocals := 4, code := prog_120_method_5_code, exceptionTable := #[], attributes := #[] }
def k2m4 : Method := { name := "median", desc := "(I)J", sig := { parameters := [.int], returnType := some .long }, accessFlags := 2, code := some k2c4 }
/-- com/example/locator/locator/cli/WarmUp -/
def k2 : Class := { plain "com/example/locator/locator/cli/WarmUp" (some 0) with
  accessFlags := 48
  interfaces := #[]
  cf := some (fileOf pool2 7 #[] #[{ accessFlags := 0, nameIndex := 5, descriptorIndex := 78, attributes := #[] }, { accessFlags := 0, nameIndex := 82, descriptorIndex := 83, attributes := #[] }, { accessFlags := 0, nameIndex := 48, descriptorIndex := 49, attributes := #[] }, { accessFlags := 0, nameIndex := 84, descriptorIndex := 49, attributes := #[] }, { accessFlags := 2, nameIndex := 42, descriptorIndex := 43, attributes := #[] }] 48 2 #[] #[{ accessFlags := 24, nameIndex := 71, descriptorIndex := 27, attributes := #[] }, { accessFlags := 24, nameIndex := 73, descriptorIndex := 74, attributes := #[] }, { accessFlags := 24, nameIndex := 76, descriptorIndex := 77, attributes := #[] }, { accessFlags := 24, nameIndex := 52, descriptorIndex := 27, attributes := #[] }, { accessFlags := 18, nameIndex := 26, descriptorIndex := 27, attributes := #[] }, { accessFlags := 18, nameIndex := 11, descriptorIndex := 12, attributes := #[] }, { accessFlags := 2, nameIndex := 30, descriptorIndex := 27, attributes := #[] }, { accessFlags := 2, nameIndex := 33, descriptorIndex := 27, attributes := #[] }])
  fields := #[{ name := "SEARCHES", type := .long, accessFlags := 24, slot := 0, constantValue := 0 }, { name := "WINDOW", type := .int, accessFlags := 24, slot := 1, constantValue := 0 }, { name := "STEADY", type := .double, accessFlags := 24, slot := 2, constantValue := 0 }, { name := "LIMIT_NANOS", type := .long, accessFlags := 24, slot := 3, constantValue := 0 }, { name := "passesNeeded", type := .long, accessFlags := 18, slot := 0, constantValue := 0 }, { name := "recent", type := (.array .long), accessFlags := 18, slot := 1, constantValue := 0 }, { name := "passes", type := .long, accessFlags := 2, slot := 2, constantValue := 0 }, { name := "elapsed", type := .long, accessFlags := 2, slot := 3, constantValue := 0 }]
  methods := #[k2m0, k2m1, k2m2, k2m3, k2m4]
  instanceTypes := #[.long, (.array .long), .long, .long]
  staticTypes := #[.long, .int, .double, .long]
  resolved := Array.replicate 104 none
  statics := some 0 }

def pool3 : Array CpInfo := pool [(1, .class_ 2), (0, u "java/lang/Math"), (1, .class_ 6), (1, u "java/lang/Object"), (0, u "<init>"), (0, u "()V"), (89, .class_ 100), (1, u "java/lang/Math$RandomNumberGeneratorHolder"), (20, u "(JJ)J"), (50, u "negativeZeroFloatBits"), (0, u "J"), (2, u "negativeZeroDoubleBits"), (21, u "max"), (46, u "$assertionsDisabled"), (0, u "Z"), (91, u "twoToTheDoubleScaleDown"), (0, u "D"), (4, u "twoToTheDoubleScaleUp"), (9, u "E"), (3, u "PI"), (2, u "TAU"), (2, u "DEGREES_TO_RADIANS"), (0, u "RADIANS_TO_DEGREES")] 94

def k3m0 : Method := { name := "<init>", desc := "()V", sig := { parameters := [], returnType := none }, accessFlags := 2, code := none }
def k3c1 : Code := { maxStack := 4, maxLocals := 4, code := jdk_29_method_66_code, exceptionTable := #[], attributes := #[] }
def k3m1 : Method := { name := "max", desc := "(JJ)J", sig := { parameters := [.long, .long], returnType := some .long }, accessFlags := 9, code := some k3c1 }
/-- java/lang/Math -/
def k3 : Class := { plain "java/lang/Math" (some 0) with
  accessFlags := 49
  interfaces := #[]
  cf := some (fileOf pool3 1 #[.nestMembers #[98]] #[{ accessFlags := 2, nameIndex := 7, descriptorIndex := 8, attributes := #[] }, { accessFlags := 9, nameIndex := 198, descriptorIndex := 121, attributes := #[] }] 49 4 #[] #[{ accessFlags := 25, nameIndex := 354, descriptorIndex := 339, attributes := #[] }, { accessFlags := 25, nameIndex := 358, descriptorIndex := 339, attributes := #[] }, { accessFlags := 25, nameIndex := 361, descriptorIndex := 339, attributes := #[] }, { accessFlags := 26, nameIndex := 364, descriptorIndex := 339, attributes := #[] }, { accessFlags := 26, nameIndex := 365, descriptorIndex := 339, attributes := #[] }, { accessFlags := 26, nameIndex := 172, descriptorIndex := 173, attributes := #[] }, { accessFlags := 26, nameIndex := 176, descriptorIndex := 173, attributes := #[] }, { accessFlags := 8, nameIndex := 344, descriptorIndex := 339, attributes := #[] }, { accessFlags := 8, nameIndex := 338, descriptorIndex := 339, attributes := #[] }, { accessFlags := 4120, nameIndex := 245, descriptorIndex := 246, attributes := #[] }])
  fields := #[{ name := "E", type := .double, accessFlags := 25, slot := 0, constantValue := 0 }, { name := "PI", type := .double, accessFlags := 25, slot := 1, constantValue := 0 }, { name := "TAU", type := .double, accessFlags := 25, slot := 2, constantValue := 0 }, { name := "DEGREES_TO_RADIANS", type := .double, accessFlags := 26, slot := 3, constantValue := 0 }, { name := "RADIANS_TO_DEGREES", type := .double, accessFlags := 26, slot := 4, constantValue := 0 }, { name := "negativeZeroFloatBits", type := .long, accessFlags := 26, slot := 5, constantValue := 0 }, { name := "negativeZeroDoubleBits", type := .long, accessFlags := 26, slot := 6, constantValue := 0 }, { name := "twoToTheDoubleScaleUp", type := .double, accessFlags := 8, slot := 7, constantValue := 0 }, { name := "twoToTheDoubleScaleDown", type := .double, accessFlags := 8, slot := 8, constantValue := 0 }, { name := "$assertionsDisabled", type := .boolean, accessFlags := 4120, slot := 9, constantValue := 0 }]
  methods := #[k3m0, k3m1]
  instanceTypes := #[]
  staticTypes := #[.double, .double, .double, .double, .double, .long, .long, .double, .double, .boolean]
  resolved := Array.replicate 460 none
  statics := none }

def pool4 : Array CpInfo := pool [(2, .class_ 4), (1, u "java/lang/Object"), (0, u "<init>"), (0, u "()V"), (1, .class_ 10), (1, u "java/util/DualPivotQuicksort"), (0, u "sort"), (2, .class_ 16), (1, u "java/util/Arrays"), (2, .methodref 8 20), (0, .nameAndType 11 21), (0, u "([JIII)V"), (52, .class_ 76), (1, u "java/util/Arrays$NaturalOrder"), (36, .class_ 115), (1, u "java/util/Arrays$LegacyMergeSort"), (1, u "Z"), (257, .class_ 376), (0, u "java/util/Arrays$ArrayList"), (68, u "$assertionsDisabled"), (269, u "MIN_ARRAY_SORT_GRAN"), (0, u "I"), (2, u "INSERTIONSORT_THRESHOLD"), (11, u "([J)V"), (243, .class_ 976), (0, u "java/util/Arrays$ArrayItr")] 52

def k4m0 : Method := { name := "<init>", desc := "()V", sig := { parameters := [], returnType := none }, accessFlags := 2, code := none }
def k4c1 : Code := { maxStack := 4, maxLocals := 1, code := jdk_65_method_4_code, exceptionTable := #[], attributes := #[] }
def k4m1 : Method := { name := "sort", desc := "([J)V", sig := { parameters := [(.array .long)], returnType := none }, accessFlags := 9, code := some k4c1 }
/-- java/util/Arrays -/
def k4 : Class := { plain "java/util/Arrays" (some 0) with
  accessFlags := 49
  interfaces := #[]
  cf := some (fileOf pool4 14 #[.nestMembers #[975, 375, 113, 74]] #[{ accessFlags := 2, nameIndex := 5, descriptorIndex := 6, attributes := #[] }, { accessFlags := 9, nameIndex := 11, descriptorIndex := 731, attributes := #[] }] 49 2 #[] #[{ accessFlags := 26, nameIndex := 715, descriptorIndex := 716, attributes := #[] }, { accessFlags := 26, nameIndex := 719, descriptorIndex := 716, attributes := #[] }, { accessFlags := 4120, nameIndex := 445, descriptorIndex := 117, attributes := #[] }])
  fields := #[{ name := "MIN_ARRAY_SORT_GRAN", type := .int, accessFlags := 26, slot := 0, constantValue := 0 }, { name := "INSERTIONSORT_THRESHOLD", type := .int, accessFlags := 26, slot := 1, constantValue := 0 }, { name := "$assertionsDisabled", type := .boolean, accessFlags := 4120, slot := 2, constantValue := 0 }]
  methods := #[k4m0, k4m1]
  instanceTypes := #[]
  staticTypes := #[.int, .int, .boolean]
  resolved := Array.replicate 1029 none
  statics := none }

def pool5 : Array CpInfo := pool [(1, .class_ 2), (0, u "java/util/DualPivotQuicksort"), (5, .class_ 10), (1, u "java/lang/Object"), (0, u "<init>"), (0, u "()V"), (4, .class_ 18), (0, u "java/util/DualPivotQuicksort$Sorter"), (9, u "sort"), (7, u "insertionSort"), (31, u "I"), (4, .class_ 74), (0, u "java/util/DualPivotQuicksort$RunMerger"), (10, .class_ 86), (0, u "java/util/DualPivotQuicksort$Merger"), (12, .methodref 1 100), (0, .nameAndType 28 101), (0, u "(Ljava/util/DualPivotQuicksort$Sorter;[JIII)V"), (2, u "([JIII)V"), (0, .methodref 1 106), (0, .nameAndType 36 107), (0, u "([JII)V"), (106, u "MAX_MIXED_INSERTION_SORT_SIZE"), (2, u "MAX_INSERTION_SORT_SIZE"), (1, u "MIN_PARALLEL_SORT_SIZE"), (1, u "MIN_TRY_MERGE_SIZE"), (0, u "MIN_FIRST_RUN_SIZE"), (1, u "MIN_FIRST_RUNS_FACTOR"), (1, u "MAX_RUN_CAPACITY"), (1, u "MIN_RUN_COUNT"), (1, u "MIN_PARALLEL_MERGE_PARTS_SIZE"), (0, u "MIN_BYTE_COUNTING_SORT_SIZE"), (1, u "MIN_SHORT_OR_CHAR_COUNTING_SORT_SIZE"), (1, u "DELTA"), (1, u "MAX_RECURSION_DEPTH"), (1, u "NUM_BYTE_VALUES"), (1, u "MAX_BYTE_INDEX"), (0, u "NUM_CHAR_VALUES"), (0, u "NUM_SHORT_VALUES"), (0, u "MAX_SHORT_INDEX")] 86

def k5m0 : Method := { name := "<init>", desc := "()V", sig := { parameters := [], returnType := none }, accessFlags := 2, code := none }
def k5c1 : Code := { maxStack := 9, maxLocals := 7, code := jdk_2529_method_12_code, exceptionTable := #[], attributes := #[] }
def k5m1 : Method := { name := "sort", desc := "([JIII)V", sig := { parameters := [(.array .long), .int, .int, .int], returnType := none }, accessFlags := 8, code := some k5c1 }
def k5c2 : Code := { maxStack := 6, maxLocals := 25, code := jdk_2529_method_13_code, exceptionTable := #[], attributes := #[] }
def k5m2 : Method := { name := "sort", desc := "(Ljava/util/DualPivotQuicksort$Sorter;[JIII)V", sig := { parameters := [(.object "java/util/DualPivotQuicksort$Sorter"), (.array .long), .int, .int, .int], returnType := none }, accessFlags := 8, code := some k5c2 }
def k5c3 : Code := { maxStack := 5, maxLocals := 7, code := jdk_2529_method_15_code, exceptionTable := #[], attributes := #[] }
def k5m3 : Method := { name := "insertionSort", desc := "([JII)V", sig := { parameters := [(.array .long), .int, .int], returnType := none }, accessFlags := 10, code := some k5c3 }
/-- java/util/DualPivotQuicksort -/
def k5 : Class := { plain "java/util/DualPivotQuicksort" (some 0) with
  accessFlags := 48
  interfaces := #[]
  cf := some (fileOf pool5 1 #[.nestMembers #[73, 85, 17]] #[{ accessFlags := 2, nameIndex := 11, descriptorIndex := 12, attributes := #[] }, { accessFlags := 8, nameIndex := 28, descriptorIndex := 104, attributes := #[] }, { accessFlags := 8, nameIndex := 28, descriptorIndex := 101, attributes := #[] }, { accessFlags := 10, nameIndex := 36, descriptorIndex := 107, attributes := #[] }] 48 8 #[] #[{ accessFlags := 26, nameIndex := 214, descriptorIndex := 68, attributes := #[] }, { accessFlags := 26, nameIndex := 217, descriptorIndex := 68, attributes := #[] }, { accessFlags := 26, nameIndex := 219, descriptorIndex := 68, attributes := #[] }, { accessFlags := 26, nameIndex := 221, descriptorIndex := 68, attributes := #[] }, { accessFlags := 26, nameIndex := 222, descriptorIndex := 68, attributes := #[] }, { accessFlags := 26, nameIndex := 224, descriptorIndex := 68, attributes := #[] }, { accessFlags := 26, nameIndex := 226, descriptorIndex := 68, attributes := #[] }, { accessFlags := 26, nameIndex := 228, descriptorIndex := 68, attributes := #[] }, { accessFlags := 26, nameIndex := 230, descriptorIndex := 68, attributes := #[] }, { accessFlags := 26, nameIndex := 231, descriptorIndex := 68, attributes := #[] }, { accessFlags := 26, nameIndex := 233, descriptorIndex := 68, attributes := #[] }, { accessFlags := 26, nameIndex := 235, descriptorIndex := 68, attributes := #[] }, { accessFlags := 26, nameIndex := 237, descriptorIndex := 68, attributes := #[] }, { accessFlags := 26, nameIndex := 239, descriptorIndex := 68, attributes := #[] }, { accessFlags := 26, nameIndex := 241, descriptorIndex := 68, attributes := #[] }, { accessFlags := 26, nameIndex := 242, descriptorIndex := 68, attributes := #[] }, { accessFlags := 26, nameIndex := 243, descriptorIndex := 68, attributes := #[] }, { accessFlags := 26, nameIndex := 244, descriptorIndex := 68, attributes := #[] }])
  fields := #[{ name := "MAX_MIXED_INSERTION_SORT_SIZE", type := .int, accessFlags := 26, slot := 0, constantValue := 0 }, { name := "MAX_INSERTION_SORT_SIZE", type := .int, accessFlags := 26, slot := 1, constantValue := 0 }, { name := "MIN_PARALLEL_SORT_SIZE", type := .int, accessFlags := 26, slot := 2, constantValue := 0 }, { name := "MIN_TRY_MERGE_SIZE", type := .int, accessFlags := 26, slot := 3, constantValue := 0 }, { name := "MIN_FIRST_RUN_SIZE", type := .int, accessFlags := 26, slot := 4, constantValue := 0 }, { name := "MIN_FIRST_RUNS_FACTOR", type := .int, accessFlags := 26, slot := 5, constantValue := 0 }, { name := "MAX_RUN_CAPACITY", type := .int, accessFlags := 26, slot := 6, constantValue := 0 }, { name := "MIN_RUN_COUNT", type := .int, accessFlags := 26, slot := 7, constantValue := 0 }, { name := "MIN_PARALLEL_MERGE_PARTS_SIZE", type := .int, accessFlags := 26, slot := 8, constantValue := 0 }, { name := "MIN_BYTE_COUNTING_SORT_SIZE", type := .int, accessFlags := 26, slot := 9, constantValue := 0 }, { name := "MIN_SHORT_OR_CHAR_COUNTING_SORT_SIZE", type := .int, accessFlags := 26, slot := 10, constantValue := 0 }, { name := "DELTA", type := .int, accessFlags := 26, slot := 11, constantValue := 0 }, { name := "MAX_RECURSION_DEPTH", type := .int, accessFlags := 26, slot := 12, constantValue := 0 }, { name := "NUM_BYTE_VALUES", type := .int, accessFlags := 26, slot := 13, constantValue := 0 }, { name := "MAX_BYTE_INDEX", type := .int, accessFlags := 26, slot := 14, constantValue := 0 }, { name := "NUM_CHAR_VALUES", type := .int, accessFlags := 26, slot := 15, constantValue := 0 }, { name := "NUM_SHORT_VALUES", type := .int, accessFlags := 26, slot := 16, constantValue := 0 }, { name := "MAX_SHORT_INDEX", type := .int, accessFlags := 26, slot := 17, constantValue := 0 }]
  methods := #[k5m0, k5m1, k5m2, k5m3]
  instanceTypes := #[]
  staticTypes := #[.int, .int, .int, .int, .int, .int, .int, .int, .int, .int, .int, .int, .int, .int, .int, .int, .int, .int]
  resolved := Array.replicate 331 none
  statics := none }

def pool6 : Array CpInfo := pool [(1, u "java/lang/Cloneable"), (0, .class_ 1), (0, u "java/lang/Object"), (0, .class_ 3)] 3

/-- java/lang/Cloneable -/
def k6 : Class := { plain "java/lang/Cloneable" (some 0) with
  accessFlags := 1537
  interfaces := #[]
  cf := some (fileOf pool6 2 #[] #[] 1537 4 #[] #[])
  fields := #[]
  methods := #[]
  instanceTypes := #[]
  staticTypes := #[]
  resolved := Array.replicate 8 none
  statics := none }

def pool7 : Array CpInfo := pool [(1, u "java/io/Serializable"), (0, .class_ 1), (0, u "java/lang/Object"), (0, .class_ 3)] 3

/-- java/io/Serializable -/
def k7 : Class := { plain "java/io/Serializable" (some 0) with
  accessFlags := 1537
  interfaces := #[]
  cf := some (fileOf pool7 2 #[] #[] 1537 4 #[] #[])
  fields := #[]
  methods := #[]
  instanceTypes := #[]
  staticTypes := #[]
  resolved := Array.replicate 8 none
  statics := none }

/-- the primitive byte -/
def k8 : Class := { plain "byte" none with kind := .primitive 'B', accessFlags := 0x411 }
/-- [B -/
def k9 : Class := { plain "[B" (some 0) with kind := .array 8 .byte, interfaces := #[6, 7], accessFlags := 1041 }

/-- the primitive int -/
def k10 : Class := { plain "int" none with kind := .primitive 'I', accessFlags := 0x411 }
/-- [I -/
def k11 : Class := { plain "[I" (some 0) with kind := .array 10 .int, interfaces := #[6, 7], accessFlags := 1041 }

/-- the primitive long -/
def k12 : Class := { plain "long" none with kind := .primitive 'J', accessFlags := 0x411 }
/-- [J -/
def k13 : Class := { plain "[J" (some 0) with kind := .array 12 .long, interfaces := #[6, 7], accessFlags := 1041 }

def heap : Heap := #[{ cls := 2, slots := #[.long 0, .int 0, .double 0, .long 120000000000], vm := .statics 2 }]
def classes : Array Class := #[k0, k1, k2, k3, k4, k5, k6, k7, k8, k9, k10, k11, k12, k13]
def interned : List (Array UInt16 × Addr) := []
def slotsUsed : Nat := 4
def theMethod : MethodId := ⟨1, 3⟩
def args0 : Array Value := #[.long 1, .long 2, .int 3, .int 4]
def aboutOver (below : List Frame) : State where
  vm := { classes := classes, interned := interned.toArray }
  heap := heap
  slotsUsed := slotsUsed
  threads := #[{ frames := .invoking theMethod args0 :: below }]
def below0 : List Frame := [.native { method := ⟨0, 0⟩, args := #[] }]
def about1 : State := aboutOver below0
def p0 : Program := .bare "" "" ""
def e0 : Env := launch0.env 0 0 0
theorem w_frames : about1.frames = Frame.invoking theMethod args0 :: below0 := rfl
set_option maxRecDepth 65536 in
theorem w_args : argsFit about1.vm theMethod args0 = true := by decide +kernel
set_option maxRecDepth 65536 in
theorem w_heap : heapFits about1 = true := by decide +kernel
set_option maxRecDepth 65536 in
theorem w_runnable : about1.curStatus? = some .runnable := by decide +kernel
set_option maxRecDepth 65536 in
theorem w_alone : about1.alone = true := by decide +kernel
set_option maxRecDepth 65536 in
theorem w_named : about1.methodNamed? x = some theMethod := by decide +kernel
set_option maxRecDepth 65536 in
theorem w_hears : about1.hears theMethod below0 = true := by decide +kernel
set_option maxRecDepth 65536 in
theorem w_ripe : about1.ripe theMethod args0 below0 = true := by decide +kernel
theorem w_running : about1.status = .running := rfl
set_option maxRecDepth 65536 in
theorem w_room : about1.hasRoom e0.platform room_1 = true :=
  launch0.hasRoom_least _ room_1 (by decide +kernel) (by decide +kernel) (by decide +kernel) (by decide +kernel) (by decide +kernel) (by decide +kernel)
theorem allAtoms_all (ts : List Jvm.Cond) (a : Array Jvm.Value) (st : Jvm.State) : (allAtoms ts).before a st = ts.all (fun c => c.before a st) := by
  induction ts with
  | nil => rfl
  | cons c t ih =>
    show (Jvm.Cond.and c (allAtoms t)).before a st = _
    rw [Jvm.Cond.before_and, ih, List.all_cons]
def words1 : List Jvm.Cond := Jvm.Cond.code x code maxLocals ret :: tables_1
/-- a 'code' word, met by the world's own term for the bytes: nothing is compared byte by byte -/
theorem code_word {y : MethodName} {bytes : ByteArray} {mx : Nat} {rt : Option FieldType} {a : Array Value} {s : State} {m : MethodId} {meth : Method} {c : Code} (h1 : s.methodNamed? y = some m) (h2 : s.vm.method? m = some meth) (h3 : meth.code = some c) (h4 : c.code = bytes)
    (h5 : (c.maxLocals == mx && c.exceptionTable.isEmpty && decide (c.maxStack ≤ mostOperands) && decide (meth.sig.returnType = rt) && !meth.locks && decide (parseMethodDescriptor y.desc = some meth.sig)) = true) : (Jvm.Cond.code y bytes mx rt).before a s = true := by
  simp only [Bool.and_eq_true, beq_iff_eq, Bool.not_eq_true', decide_eq_true_eq] at h5
  obtain ⟨⟨⟨⟨⟨g1, g2⟩, g3⟩, g4⟩, g5⟩, g6⟩ := h5
  simp [Cond.before, Cond.holds, Cond.value, h1, h2, h3, h4, g1, g2, g3, g4, g5, g6]
def isCode : Jvm.Cond → Bool
  | .code _ _ _ _ => true
  | _ => false
theorem all_split {L : List Jvm.Cond} {P : Jvm.Cond → Bool} (h1 : L.all (fun c => isCode c || P c) = true) (h2 : ∀ c ∈ L.filter isCode, P c = true) : L.all P = true := by
  refine List.all_eq_true.mpr fun c hc => ?_
  have h := List.all_eq_true.mp h1 c hc
  rcases Bool.eq_false_or_eq_true (isCode c) with hi | hi
  · exact h2 c (List.mem_filter.mpr ⟨hc, hi⟩)
  · simpa [hi] using h
set_option maxRecDepth 65536 in
theorem w_c0 : (Jvm.Cond.code x code maxLocals ret).before args0 about1 = true := code_word (m := ⟨1, 3⟩) (meth := k1m3) (c := k1c3) (by decide +kernel) rfl rfl rfl (by decide +kernel)
set_option maxRecDepth 65536 in
theorem w_c1 : (Jvm.Cond.code ({ cls := "com/example/locator/locator/cli/WarmUp", name := "<init>", desc := "(I)V" } : Jvm.MethodName) prog_120_method_1_code (2 : Nat) (Option.none : Option Jvm.ClassFile.FieldType)).before args0 about1 = true := code_word (m := ⟨2, 0⟩) (meth := k2m0) (c := k2c0) (by decide +kernel) rfl rfl rfl (by decide +kernel)
set_option maxRecDepth 65536 in
theorem w_c2 : (Jvm.Cond.code ({ cls := "java/lang/Object", name := "<init>", desc := "()V" } : Jvm.MethodName) object_method_1_code (1 : Nat) (Option.none : Option Jvm.ClassFile.FieldType)).before args0 about1 = true := code_word (m := ⟨0, 0⟩) (meth := k0m0) (c := k0c0) (by decide +kernel) rfl rfl rfl (by decide +kernel)
set_option maxRecDepth 65536 in
theorem w_c3 : (Jvm.Cond.code ({ cls := "com/example/locator/locator/cli/WarmUpPassedPinLaw", name := "pick", desc := "(IIJJ)J" } : Jvm.MethodName) method_3_code (6 : Nat) (Option.some Jvm.ClassFile.FieldType.long)).before args0 about1 = true := code_word (m := ⟨1, 2⟩) (meth := k1m2) (c := k1c2) (by decide +kernel) rfl rfl rfl (by decide +kernel)
set_option maxRecDepth 65536 in
theorem w_c4 : (Jvm.Cond.code ({ cls := "com/example/locator/locator/cli/WarmUpPassedPinLaw", name := "bit", desc := "(II)I" } : Jvm.MethodName) method_2_code (2 : Nat) (Option.some Jvm.ClassFile.FieldType.int)).before args0 about1 = true := code_word (m := ⟨1, 1⟩) (meth := k1m1) (c := k1c1) (by decide +kernel) rfl rfl rfl (by decide +kernel)
set_option maxRecDepth 65536 in
theorem w_c5 : (Jvm.Cond.code ({ cls := "com/example/locator/locator/cli/WarmUp", name := "passed", desc := "(J)V" } : Jvm.MethodName) prog_120_method_2_code (3 : Nat) (Option.none : Option Jvm.ClassFile.FieldType)).before args0 about1 = true := code_word (m := ⟨2, 1⟩) (meth := k2m1) (c := k2c1) (by decide +kernel) rfl rfl rfl (by decide +kernel)
set_option maxRecDepth 65536 in
theorem w_c6 : (Jvm.Cond.code ({ cls := "com/example/locator/locator/cli/WarmUp", name := "settled", desc := "()Z" } : Jvm.MethodName) prog_120_method_3_code (1 : Nat) (Option.some Jvm.ClassFile.FieldType.boolean)).before args0 about1 = true := code_word (m := ⟨2, 2⟩) (meth := k2m2) (c := k2c2) (by decide +kernel) rfl rfl rfl (by decide +kernel)
set_option maxRecDepth 65536 in
theorem w_c7 : (Jvm.Cond.code ({ cls := "java/lang/Math", name := "max", desc := "(JJ)J" } : Jvm.MethodName) jdk_29_method_66_code (4 : Nat) (Option.some Jvm.ClassFile.FieldType.long)).before args0 about1 = true := code_word (m := ⟨3, 1⟩) (meth := k3m1) (c := k3c1) (by decide +kernel) rfl rfl rfl (by decide +kernel)
set_option maxRecDepth 65536 in
theorem w_c8 : (Jvm.Cond.code ({ cls := "com/example/locator/locator/cli/WarmUp", name := "done", desc := "()Z" } : Jvm.MethodName) prog_120_method_4_code (1 : Nat) (Option.some Jvm.ClassFile.FieldType.boolean)).before args0 about1 = true := code_word (m := ⟨2, 3⟩) (meth := k2m3) (c := k2c3) (by decide +kernel) rfl rfl rfl (by decide +kernel)
set_option maxRecDepth 65536 in
theorem w_c9 : (Jvm.Cond.code ({ cls := "com/example/locator/locator/cli/WarmUp", name := "median", desc := "(I)J" } : Jvm.MethodName) prog_120_method_5_code (4 : Nat) (Option.some Jvm.ClassFile.FieldType.long)).before args0 about1 = true := code_word (m := ⟨2, 4⟩) (meth := k2m4) (c := k2c4) (by decide +kernel) rfl rfl rfl (by decide +kernel)
set_option maxRecDepth 65536 in
theorem w_c10 : (Jvm.Cond.code ({ cls := "java/util/Arrays", name := "sort", desc := "([J)V" } : Jvm.MethodName) jdk_65_method_4_code (1 : Nat) (Option.none : Option Jvm.ClassFile.FieldType)).before args0 about1 = true := code_word (m := ⟨4, 1⟩) (meth := k4m1) (c := k4c1) (by decide +kernel) rfl rfl rfl (by decide +kernel)
set_option maxRecDepth 65536 in
theorem w_c11 : (Jvm.Cond.code ({ cls := "java/util/DualPivotQuicksort", name := "sort", desc := "([JIII)V" } : Jvm.MethodName) jdk_2529_method_12_code (7 : Nat) (Option.none : Option Jvm.ClassFile.FieldType)).before args0 about1 = true := code_word (m := ⟨5, 1⟩) (meth := k5m1) (c := k5c1) (by decide +kernel) rfl rfl rfl (by decide +kernel)
set_option maxRecDepth 65536 in
theorem w_c12 : (Jvm.Cond.code ({ cls := "java/util/DualPivotQuicksort", name := "sort", desc := "(Ljava/util/DualPivotQuicksort$Sorter;[JIII)V" } : Jvm.MethodName) jdk_2529_method_13_code (25 : Nat) (Option.none : Option Jvm.ClassFile.FieldType)).before args0 about1 = true := code_word (m := ⟨5, 2⟩) (meth := k5m2) (c := k5c2) (by decide +kernel) rfl rfl rfl (by decide +kernel)
set_option maxRecDepth 65536 in
theorem w_c13 : (Jvm.Cond.code ({ cls := "java/util/DualPivotQuicksort", name := "insertionSort", desc := "([JII)V" } : Jvm.MethodName) jdk_2529_method_15_code (7 : Nat) (Option.none : Option Jvm.ClassFile.FieldType)).before args0 about1 = true := code_word (m := ⟨5, 3⟩) (meth := k5m3) (c := k5c3) (by decide +kernel) rfl rfl rfl (by decide +kernel)
def codes1 : List Jvm.Cond := [Jvm.Cond.code x code maxLocals ret, Jvm.Cond.code ({ cls := "com/example/locator/locator/cli/WarmUp", name := "<init>", desc := "(I)V" } : Jvm.MethodName) prog_120_method_1_code (2 : Nat) (Option.none : Option Jvm.ClassFile.FieldType), Jvm.Cond.code ({ cls := "java/lang/Object", name := "<init>", desc := "()V" } : Jvm.MethodName) object_method_1_code (1 : Nat) (Option.none : Option Jvm.ClassFile.FieldType), Jvm.Cond.code ({ cls := "com/example/locator/locator/cli/WarmUpPassedPinLaw", name := "pick", desc := "(IIJJ)J" } : Jvm.MethodName) method_3_code (6 : Nat) (Option.some Jvm.ClassFile.FieldType.long), Jvm.Cond.code ({ cls := "com/example/locator/locator/cli/WarmUpPassedPinLaw", name := "bit", desc := "(II)I" } : Jvm.MethodName) method_2_code (2 : Nat) (Option.some Jvm.ClassFile.FieldType.int), Jvm.Cond.code ({ cls := "com/example/locator/locator/cli/WarmUp", name := "passed", desc := "(J)V" } : Jvm.MethodName) prog_120_method_2_code (3 : Nat) (Option.none : Option Jvm.ClassFile.FieldType), Jvm.Cond.code ({ cls := "com/example/locator/locator/cli/WarmUp", name := "settled", desc := "()Z" } : Jvm.MethodName) prog_120_method_3_code (1 : Nat) (Option.some Jvm.ClassFile.FieldType.boolean), Jvm.Cond.code ({ cls := "java/lang/Math", name := "max", desc := "(JJ)J" } : Jvm.MethodName) jdk_29_method_66_code (4 : Nat) (Option.some Jvm.ClassFile.FieldType.long), Jvm.Cond.code ({ cls := "com/example/locator/locator/cli/WarmUp", name := "done", desc := "()Z" } : Jvm.MethodName) prog_120_method_4_code (1 : Nat) (Option.some Jvm.ClassFile.FieldType.boolean), Jvm.Cond.code ({ cls := "com/example/locator/locator/cli/WarmUp", name := "median", desc := "(I)J" } : Jvm.MethodName) prog_120_method_5_code (4 : Nat) (Option.some Jvm.ClassFile.FieldType.long), Jvm.Cond.code ({ cls := "java/util/Arrays", name := "sort", desc := "([J)V" } : Jvm.MethodName) jdk_65_method_4_code (1 : Nat) (Option.none : Option Jvm.ClassFile.FieldType), Jvm.Cond.code ({ cls := "java/util/DualPivotQuicksort", name := "sort", desc := "([JIII)V" } : Jvm.MethodName) jdk_2529_method_12_code (7 : Nat) (Option.none : Option Jvm.ClassFile.FieldType), Jvm.Cond.code ({ cls := "java/util/DualPivotQuicksort", name := "sort", desc := "(Ljava/util/DualPivotQuicksort$Sorter;[JIII)V" } : Jvm.MethodName) jdk_2529_method_13_code (25 : Nat) (Option.none : Option Jvm.ClassFile.FieldType), Jvm.Cond.code ({ cls := "java/util/DualPivotQuicksort", name := "insertionSort", desc := "([JII)V" } : Jvm.MethodName) jdk_2529_method_15_code (7 : Nat) (Option.none : Option Jvm.ClassFile.FieldType)]
set_option maxRecDepth 65536 in
theorem codes_eq : words1.filter isCode = codes1 := rfl
theorem w_codes : ∀ c ∈ words1.filter isCode, c.before args0 about1 = true := by
  rw [codes_eq]
  intro c hc
  simp only [codes1, List.mem_cons, List.not_mem_nil, or_false] at hc
  rcases hc with rfl | rfl | rfl | rfl | rfl | rfl | rfl | rfl | rfl | rfl | rfl | rfl | rfl | rfl
  · exact w_c0
  · exact w_c1
  · exact w_c2
  · exact w_c3
  · exact w_c4
  · exact w_c5
  · exact w_c6
  · exact w_c7
  · exact w_c8
  · exact w_c9
  · exact w_c10
  · exact w_c11
  · exact w_c12
  · exact w_c13
set_option maxRecDepth 65536 in
theorem w_t1 : (words1.take 24).all (fun c => isCode c || c.before args0 about1) = true := by decide +kernel
set_option maxRecDepth 65536 in
theorem w_t2 : ((words1.drop 24).take 24).all (fun c => isCode c || c.before args0 about1) = true := by decide +kernel
set_option maxRecDepth 65536 in
theorem w_t3 : (((words1.drop 24).drop 24).take 24).all (fun c => isCode c || c.before args0 about1) = true := by decide +kernel
set_option maxRecDepth 65536 in
theorem w_t4 : (((words1.drop 24).drop 24).drop 24).all (fun c => isCode c || c.before args0 about1) = true := by decide +kernel
theorem w_tables : (allAtoms (Jvm.Cond.code x code maxLocals ret :: tables_1)).before args0 about1 = true := by
  rw [allAtoms_all]
  show words1.all (fun c => c.before args0 about1) = true
  refine all_split ?_ w_codes
  rw [← List.take_append_drop 24 words1, List.all_append, w_t1, ← List.take_append_drop 24 (words1.drop 24), List.all_append, w_t2, ← List.take_append_drop 24 ((words1.drop 24).drop 24), List.all_append, w_t3, w_t4]
  rfl
set_option maxRecDepth 65536 in
theorem w_case : (Jvm.Cond.and given_1 narrow_1).before args0 about1 = true := by decide +kernel
theorem w_applies : (headSpec (Jvm.Cond.code x code maxLocals ret :: tables_1) room_1).applies x e0.platform about1 = true :=
  (Spec.applies_iff w_frames).mpr ⟨w_running, w_runnable, w_alone, w_named, w_hears, w_ripe, w_room, w_tables⟩
theorem atStart : AtStart classFile x code maxLocals ret World_1 tables_1 room_1 Calls_1 rest_1 Pre_1 launch0 p0 e0 about1 theMethod args0 below0 :=
  ⟨lists_1, trivial, launch0.admits_env _ _ _, launch0.least_env, fairChoices_fair.cas, fairChoices_fair.clock, w_frames, w_args, w_heap, w_applies, trivial, trivial, w_case⟩
end start1
theorem witness_1 : WitnessClaimed_1 := ⟨start1.p0, start1.e0, start1.about1, start1.theMethod, start1.args0, start1.below0, start1.atStart⟩
end Jvm.Pilot.@@N@@
