import JvmDerived
import JvmDerived.Pilot.@@N@@Statement
import JvmDerived.Pilot.@@N@@Code
set_option linter.unusedVariables false
set_option linter.unusedSimpArgs false
namespace Jvm.Pilot.@@N@@
open Jvm Jvm.ClassFile Sem Op Lib Jvm.Free Jvm.Stand Jvm.LawKit Jvm.RoadKit Bundle Jvm.Pilot.@@N@@.Jvm.D
/-! the walk goes on from A and ends as P says -/
def OGo (tb : Tables) (e : Env) (below : List Frame) (P : State → Outcome → Prop) (A : State) : Prop := ∃ U o, Steps tb e below A U ∧ U.status = .running ∧ Ended U below o ∧ P U o
def OPost (s : State) (Q : Option Value → Heap → List Loc → Prop) (k n : Nat) (U : State) (o : Outcome) : Prop := ∃ v L, o = .returned v ∧ Q v U.heap L ∧ FrameEnd s o U L k n
theorem OGo.st {tb : Tables} {e : Env} {below : List Frame} {P : State → Outcome → Prop} {A B : State} (st : ∀ t, Steps tb e below B t → Steps tb e below A t) (h : OGo tb e below P B) : OGo tb e below P A := by
  obtain ⟨U, o, h1, h2⟩ := h; exact ⟨U, o, st _ h1, h2⟩
theorem OGo.tr {tb : Tables} {e : Env} {below : List Frame} {P : State → Outcome → Prop} {A B : State} (st : Steps tb e below A B) (h : OGo tb e below P B) : OGo tb e below P A := by
  obtain ⟨U, o, h1, h2⟩ := h; exact ⟨U, o, st.trans h1, h2⟩
theorem OGo.enter {tb : Tables} {e : Env} {below : List Frame} {P : State → Outcome → Prop} {T : State} {g g' : JFrame} (q : g = g') (h : OGo tb e below P (T.setTop g')) : OGo tb e below P (T.setTop g) := q ▸ h
section Own
variable {p : Program} {l : Launch} {e : Env} {R : Room} {s : State} {m : MethodId} {args : Array Value} {below : List Frame} {meth : Method} {c : Code} {T : State} {locs : List Loc} {cells slots k n : Nat} {Q : Option Value → Heap → List Loc → Prop}
theorem OGo.fin (X : Stand p l e R s m args below meth c T locs cells slots) {v : Option Value} (hv : meth.sig.returnType = none → v = none) (hlk : meth.locks = false) {g : JFrame}
    (hst : ∀ fs, (∀ (f : JFrame) (acts : List Action), f.method = m → f.locked = none → f.entered = [] → (doReturn e (T.setTop f) acts v).1 = T.setFrames fs) → Steps p.tables e below (T.setTop g) (T.setFrames fs)) (hq : Q v T.heap locs) (hk : cells ≤ k) (hn : slots ≤ n) : OGo p.tables e below (OPost s Q k n) (T.setTop g) := by
  obtain ⟨fs, hr, hrun, hended, hW, hsame⟩ := X.leave hv hlk
  exact ⟨_, _, hst fs hr, hrun, hended, _, _, rfl, hq, ⟨_, rfl⟩, hW, hsame.mono hk hn⟩
theorem own_reb {L' : List Loc} {k' n' : Nat} (X : Stand p l e R s m args below meth c T locs cells slots) (h1 : locs = L') (h2 : cells = k') (h3 : slots = n') : Stand p l e R s m args below meth c T L' k' n' := by subst h1 h2 h3; exact X
theorem own_wide (X : Stand p l e R s m args below meth c T locs cells slots) {k n : Nat} (hk : cells ≤ k) (hn : slots ≤ n) : Stand p l e R s m args below meth c T locs k n := { X with same := X.same.mono hk hn }
end Own
abbrev OMet (l : Launch) (Z : State) (y : MethodName) (code : ByteArray) (ml : Nat) (ret : Option FieldType) (ws : List Jvm.Cond) (rm : Room) (as : Array Value) (h0 : Heap) (Q : Option Value → Heap → List Loc → Prop) : Prop :=
  MetFree l y (head1 (Jvm.Cond.code y code ml ret :: ws) rm) (fun a U => a = as ∧ Z.Warmed39 U.vm ∧ U.heap = h0) (fun _ _ _ _ _ => True) (fun _ U o U' => ∃ v L, o = .returned v ∧ Q v U'.heap L ∧ FrameEnd U o U' L rm.cells rm.slots)
def Arf (Z : State) (h : Heap) (a : Addr) (k : ClassId) (ty : FieldType) (n : Int32) (f : Nat → Value) : Prop := ∃ c : Cell, Arr Z h a c ty ∧ c.cls = k ∧ c.slots.size = n.toNatClampNeg ∧ ¬ n < 0 ∧ (∀ i, i < c.slots.size → c.slots[i]? = some (f i)) ∧ ∀ i, i < c.slots.size → fits ty (f i) = true
def own_upd (f : Nat → Value) (j : Nat) (v : Value) : Nat → Value := fun i => if i = j then v else f i
section OwnArr
variable {p : Program} {l : Launch} {e : Env} {R : Room} {s : State} {m : MethodId} {args : Array Value} {below : List Frame} {meth : Method} {c : Code} {T : State} {locs : List Loc} {cells slots : Nat} {Z : State} {h h' : Heap} {a b : Addr} {k : ClassId} {ty : FieldType} {n j : Int32} {f f' : Nat → Value} {sl : Nat} {v : Value} {ws : List Addr}
theorem Arf.lt (F : Arf Z h a k ty n f) : a < h.size := by obtain ⟨c, A, _⟩ := F; exact A.lt
theorem Arf.ext (F : Arf Z h a k ty n f) (E : Ext h h') : Arf Z h' a k ty n f := by obtain ⟨c, A, r⟩ := F; exact ⟨c, A.ext E, r⟩
theorem Arf.other (F : Arf Z h b k ty n f) (W : Wr h h' a sl v) (q : b ≠ a) : Arf Z h' b k ty n f := by obtain ⟨c, A, r⟩ := F; exact ⟨c, A.other W q, r⟩
theorem Arf.keep (F : Arf Z h a k ty n f) (K : Keep h h' ws) (q : a ∉ ws) : Arf Z h' a k ty n f := by obtain ⟨c, A, r⟩ := F; exact ⟨c, ⟨K.2.1 a c A.1 q, A.2⟩, r⟩
theorem Arf.pos (F : Arf Z h a k ty n f) : ¬ n < 0 := by obtain ⟨c, A, h1, h2, h3, -⟩ := F; exact h3
theorem Arf.congr (F : Arf Z h a k ty n f) (q : ∀ i, i < n.toNatClampNeg → f i = f' i) : Arf Z h a k ty n f' := by
  obtain ⟨c, A, h1, h2, h3, H, G⟩ := F
  exact ⟨c, A, h1, h2, h3, fun i hi => by rw [H i hi, q i (h2 ▸ hi)], fun i hi => by rw [← q i (h2 ▸ hi)]; exact G i hi⟩
theorem own_new (A : Arr Z h a (newA k ty n) ty) (q : ¬ n < 0) : Arf Z h a k ty n (fun _ => defaultValue ty) := by
  obtain ⟨c, A', h1, h2, h3, H, G⟩ := Arv.new A q
  exact ⟨c, A', h1, h2, h3, fun i hi => by have := H i hi; simpa using this, fun i hi => by have := G i hi; simpa using this⟩
theorem own_set (F : Arf Z h a k ty n f) (hv : fits ty v = true) {jj : Nat} (W : Wr h h' a jj v) : Arf Z h' a k ty n (own_upd f jj v) := by
  obtain ⟨c, A, h1, h2, h3, H, G⟩ := F
  have hj : jj < c.slots.size := by obtain ⟨c', w1, -, w3, -⟩ := W; cases w1.symm.trans A.1; exact w3
  refine ⟨c.setSlot jj v, A.same W, h1, by simpa [Cell.setSlot] using h2, h3, fun i hi => ?_, fun i hi => ?_⟩
  · have hi' : i < c.slots.size := by simpa [Cell.setSlot] using hi
    by_cases q : i = jj
    · subst q; simp [Cell.setSlot, own_upd, hi']
    · have := H i hi'; simp only [own_upd, if_neg q]; rw [← this]; exact Array.getElem?_setIfInBounds_ne (Ne.symm q)
  · have hi' : i < c.slots.size := by simpa [Cell.setSlot] using hi
    by_cases q : i = jj
    · simp only [own_upd, if_pos q]; exact hv
    · simp only [own_upd, if_neg q]; exact G i hi'
theorem own_alen (X : Stand p l e R s m args below meth c T locs cells slots) (hx : p.tables.exec = Jvm.exec) (hZ : Z.Warmed39 s.vm) (eT : T.heap = h) (F : Arf Z h a k ty n f) {g : JFrame} (hg : g.method = m) {rest : List Value} (hs : g.stack = .ref a :: rest) (hd : decode c.code g.pc = .ok (.arraylength, 1)) :
    ∀ t, Steps p.tables e below (T.setTop { g with pc := g.pc + 1, stack := .int n :: rest }) t → Steps p.tables e below (T.setTop g) t := by
  obtain ⟨cl, A, h1, S, N, H, G⟩ := F
  intro t k_
  refine X.arraylength hx (by rw [eT]; exact A.1) (State.isArrayOf_alike hZ.alike A.2.1) hg hs hd t ?_
  rw [len_of S N]; exact k_
theorem own_at (S : cells = n.toNatClampNeg) (hin : ¬ j < 0 ∧ j < n) : j.toNatClampNeg < cells := by
  have h1 := nat_of hin.1
  have h2 : ¬ n < 0 := fun q => by have := hin.1; have := hin.2; rw [Int32.lt_iff_toInt_lt] at *; omega
  have h3 := nat_of h2
  have h4 := hin.2; rw [Int32.lt_iff_toInt_lt] at h4; omega
theorem own_ldI (X : Stand p l e R s m args below meth c T locs cells slots) (hx : p.tables.exec = Jvm.exec) (hZ : Z.Warmed39 s.vm) (eT : T.heap = h) (F : Arf Z h a k .int n f) {j v : Int32} (hin : ¬ j < 0 ∧ j < n) (hv : f j.toNatClampNeg = .int v) {g : JFrame} (hg : g.method = m) {rest : List Value} (hs : g.stack = .int j :: .ref a :: rest) (hd : decode c.code g.pc = .ok (.iaload, 1)) :
    ∀ t, Steps p.tables e below (T.setTop { g with pc := g.pc + 1, stack := .int v :: rest }) t → Steps p.tables e below (T.setTop g) t := by
  obtain ⟨cl, A, h1, S, N, H, G⟩ := F
  exact X.iaload hx (by rw [eT]; exact A.1) (State.isArrayOf_alike hZ.alike A.2.1) A.2.2 (inb_of S hin) (by rw [H _ (own_at S hin), hv]) hg hs hd
theorem own_ldJ (X : Stand p l e R s m args below meth c T locs cells slots) (hx : p.tables.exec = Jvm.exec) (hZ : Z.Warmed39 s.vm) (eT : T.heap = h) (F : Arf Z h a k .long n f) {j : Int32} {v : Int64} (hin : ¬ j < 0 ∧ j < n) (hv : f j.toNatClampNeg = .long v) {g : JFrame} (hg : g.method = m) {rest : List Value} (hs : g.stack = .int j :: .ref a :: rest) (hd : decode c.code g.pc = .ok (.laload, 1)) :
    ∀ t, Steps p.tables e below (T.setTop { g with pc := g.pc + 1, stack := .long v :: rest }) t → Steps p.tables e below (T.setTop g) t := by
  obtain ⟨cl, A, h1, S, N, H, G⟩ := F
  exact X.laload hx (by rw [eT]; exact A.1) (State.isArrayOf_alike hZ.alike A.2.1) A.2.2 (inb_of S hin) (by rw [H _ (own_at S hin), hv]) hg hs hd
theorem own_ldB (X : Stand p l e R s m args below meth c T locs cells slots) (hx : p.tables.exec = Jvm.exec) (hZ : Z.Warmed39 s.vm) (eT : T.heap = h) (F : Arf Z h a k .byte n f) {j v : Int32} (hin : ¬ j < 0 ∧ j < n) (hv : f j.toNatClampNeg = .int v) {g : JFrame} (hg : g.method = m) {rest : List Value} (hs : g.stack = .int j :: .ref a :: rest) (hd : decode c.code g.pc = .ok (.baload, 1)) :
    ∀ t, Steps p.tables e below (T.setTop { g with pc := g.pc + 1, stack := .int v :: rest }) t → Steps p.tables e below (T.setTop g) t := by
  obtain ⟨cl, A, h1, S, N, H, G⟩ := F
  exact X.baloadBytes hx (by rw [eT]; exact A.1) (State.isArrayOf_alike hZ.alike A.2.1) A.2.2 (inb_of S hin) (by rw [H _ (own_at S hin), hv]) hg hs hd
theorem own_ldR (X : Stand p l e R s m args below meth c T locs cells slots) (hx : p.tables.exec = Jvm.exec) (hZ : Z.Warmed39 s.vm) (eT : T.heap = h) {C : String} (F : Arf Z h a k (.object C) n f) {j : Int32} {v : Value} (hin : ¬ j < 0 ∧ j < n) (hv : f j.toNatClampNeg = v) {g : JFrame} (hg : g.method = m) {rest : List Value} (hs : g.stack = .int j :: .ref a :: rest) (hd : decode c.code g.pc = .ok (.aaload, 1)) :
    ∀ t, Steps p.tables e below (T.setTop { g with pc := g.pc + 1, stack := v :: rest }) t → Steps p.tables e below (T.setTop g) t := by
  obtain ⟨cl, A, h1, S, N, H, G⟩ := F
  exact X.aaload hx (by rw [eT]; exact A.1) (State.isArrayOf_alike hZ.alike A.2.1) rfl A.2.2 (inb_of S hin) (by rw [H _ (own_at S hin), hv]) hg hs hd
theorem own_stI (X : Stand p l e R s m args below meth c T locs cells slots) (hx : p.tables.exec = Jvm.exec) (hZ : Z.Warmed39 s.vm) (eT : T.heap = h) (F : Arf Z h a k .int n f) {j x : Int32} (hin : ¬ j < 0 ∧ j < n) {g : JFrame} (hg : g.method = m) {rest : List Value} (hs : g.stack = .int x :: .int j :: .ref a :: rest) (hd : decode c.code g.pc = .ok (.iastore, 1)) :
    ∃ T' h', Stand p l e R s m args below meth c T' (locs ++ [⟨a, j.toNatClampNeg⟩]) cells slots ∧ T'.heap = h' ∧ Wr h h' a j.toNatClampNeg (.int x) ∧ Arf Z h' a k .int n (own_upd f j.toNatClampNeg (.int x)) ∧ ∀ target, Steps p.tables e below (T'.setTop { g with pc := g.pc + 1, stack := rest }) target → Steps p.tables e below (T.setTop g) target := by
  obtain ⟨cl, A, h1, S, N, H, G⟩ := id F
  obtain ⟨T', h', X', e', W, st⟩ := stI X hx hZ eT A (inb_of S hin) hg hs hd
  exact ⟨T', h', X', e', W, own_set F rfl W, st⟩
theorem own_stJ (X : Stand p l e R s m args below meth c T locs cells slots) (hx : p.tables.exec = Jvm.exec) (hZ : Z.Warmed39 s.vm) (eT : T.heap = h) (F : Arf Z h a k .long n f) {j : Int32} {x : Int64} (hin : ¬ j < 0 ∧ j < n) {g : JFrame} (hg : g.method = m) {rest : List Value} (hs : g.stack = .long x :: .int j :: .ref a :: rest) (hd : decode c.code g.pc = .ok (.lastore, 1)) :
    ∃ T' h', Stand p l e R s m args below meth c T' (locs ++ [⟨a, j.toNatClampNeg⟩]) cells slots ∧ T'.heap = h' ∧ Wr h h' a j.toNatClampNeg (.long x) ∧ Arf Z h' a k .long n (own_upd f j.toNatClampNeg (.long x)) ∧ ∀ target, Steps p.tables e below (T'.setTop { g with pc := g.pc + 1, stack := rest }) target → Steps p.tables e below (T.setTop g) target := by
  obtain ⟨cl, A, h1, S, N, H, G⟩ := id F
  obtain ⟨T', h', X', e', W, st⟩ := stJ X hx hZ eT A (inb_of S hin) hg hs hd
  exact ⟨T', h', X', e', W, own_set F rfl W, st⟩
theorem own_stB (X : Stand p l e R s m args below meth c T locs cells slots) (hx : p.tables.exec = Jvm.exec) (hZ : Z.Warmed39 s.vm) (eT : T.heap = h) (F : Arf Z h a k .byte n f) {j x : Int32} (hin : ¬ j < 0 ∧ j < n) {g : JFrame} (hg : g.method = m) {rest : List Value} (hs : g.stack = .int x :: .int j :: .ref a :: rest) (hd : decode c.code g.pc = .ok (.bastore, 1)) :
    ∃ T' h', Stand p l e R s m args below meth c T' (locs ++ [⟨a, j.toNatClampNeg⟩]) cells slots ∧ T'.heap = h' ∧ Wr h h' a j.toNatClampNeg (.int (nar .byte x)) ∧ Arf Z h' a k .byte n (own_upd f j.toNatClampNeg (.int (nar .byte x))) ∧ ∀ target, Steps p.tables e below (T'.setTop { g with pc := g.pc + 1, stack := rest }) target → Steps p.tables e below (T.setTop g) target := by
  obtain ⟨cl, A, h1, S, N, H, G⟩ := id F
  obtain ⟨T', h', X', e', W, st⟩ := stB X hx hZ eT A (inb_of S hin) hg hs hd
  exact ⟨T', h', X', e', W, own_set F (fits_nar_byte _) W, st⟩
theorem own_stR (X : Stand p l e R s m args below meth c T locs cells slots) (hx : p.tables.exec = Jvm.exec) (hZ : Z.Warmed39 s.vm) (eT : T.heap = h) {C : String} (F : Arf Z h a k (.object C) n f) {j : Int32} {x : Value} (hin : ¬ j < 0 ∧ j < n) (hr : x.isRef = true) (hS : Sto Z h a x) {g : JFrame} (hg : g.method = m) {rest : List Value} (hs : g.stack = x :: .int j :: .ref a :: rest) (hd : decode c.code g.pc = .ok (.aastore, 1)) :
    ∃ T' h', Stand p l e R s m args below meth c T' (locs ++ [⟨a, j.toNatClampNeg⟩]) cells slots ∧ T'.heap = h' ∧ Wr h h' a j.toNatClampNeg x ∧ Arf Z h' a k (.object C) n (own_upd f j.toNatClampNeg x) ∧ ∀ target, Steps p.tables e below (T'.setTop { g with pc := g.pc + 1, stack := rest }) target → Steps p.tables e below (T.setTop g) target := by
  obtain ⟨cl, A, h1, S, N, H, G⟩ := id F
  obtain ⟨T', h', X', e', W, st⟩ := stR X hx hZ eT A (inb_of S hin) rfl hS hg hs hd
  exact ⟨T', h', X', e', W, own_set F (by rcases ref_cases hr with rfl | ⟨y, rfl⟩ <;> rfl) W, st⟩
theorem own_getD (f : Nat → Value) (n i : Nat) (d : Value) (h : i < n) : ((List.range n).map f).getD i d = f i := by
  simp [List.getD_eq_getElem?_getD, h]
theorem Arf.arv (F : Arf Z h a k ty n f) (d : Value) : Arv Z h a k ty n ((List.range n.toNatClampNeg).map f) d := by
  obtain ⟨c, A, h1, S, N, H, G⟩ := F
  exact ⟨c, A, h1, S, N, fun i hi => by rw [own_getD f _ i d (S ▸ hi)]; exact H i hi, fun i hi => by rw [own_getD f _ i d (S ▸ hi)]; exact G i hi⟩
theorem own_ofArv {vs : List Value} {d : Value} (F : Arv Z h a k ty n vs d) : Arf Z h a k ty n (fun i => vs.getD i d) := F
/-- System.arraycopy of a part of a primitive array into another one -/
theorem own_copy (X : Stand p l e R s m args below meth c T locs cells slots) (hx : p.tables.exec = Jvm.exec) (hZ : Z.Warmed39 s.vm) {a0 : Array Value} {own : String} {index : Nat} (hown : s.vm.findClass own = some m.cls)
    (w1 : (Jvm.Cond.methodLink own index Jvm.Stand.acN).before a0 Z = true) (w2 : (Jvm.Cond.native Jvm.Stand.acN).before a0 Z = true) (w3 : (Jvm.Cond.static Jvm.Stand.acN).before a0 Z = true) (w4 : (Jvm.Cond.initialized "java/lang/System").before a0 Z = true) (eT : T.heap = h)
    {k' : ClassId} {z' sp dp nn : Int32} (A : Arf Z h a k ty n f) (B : Arf Z h b k' ty z' f') (hty : refKind ty = false)
    (h1 : ¬ sp < 0) (h2 : ¬ dp < 0) (h3 : ¬ nn < 0) (h4 : sp.toNatClampNeg + nn.toNatClampNeg ≤ n.toNatClampNeg) (h5 : dp.toNatClampNeg + nn.toNatClampNeg ≤ z'.toNatClampNeg) {n0 : Nat} (N : Fr n0 locs) (ge : n0 ≤ b)
    {g : JFrame} (hg : g.method = m) (hsize : g.locals.size = c.maxLocals) {rest : List Value} (hs : g.stack = .int nn :: .int dp :: .ref b :: .int sp :: .ref a :: rest) (hd : decode c.code g.pc = .ok (.invokestatic index, 3))
    (hf : 1 ≤ R.frames) {W : Nat} (hW : 2 * g.monitorRoom + (rest.map fun v => v.category).sum ≤ W) (hlo : W + (nativeFrameWords "java/lang/System" "arraycopy" 5 + 11) ≤ R.locals) :
    ∃ T' h' L, Stand p l e R s m args below meth c T' L cells slots ∧ T'.heap = h' ∧ Fr n0 L ∧ Keep h h' [b] ∧ Arf Z h' b k' ty z' (fun i => if dp.toNatClampNeg ≤ i ∧ i < dp.toNatClampNeg + nn.toNatClampNeg then f (sp.toNatClampNeg + (i - dp.toNatClampNeg)) else f' i) ∧
      ∀ target, Steps p.tables e below (T'.setTop { g with pc := g.pc + 3, stack := rest }) target → Steps p.tables e below (T.setTop g) target := by
  obtain ⟨T', h', L, X', e', N', K', V', st⟩ := cpA X hx hZ hown w1 w2 w3 w4 eT (A.arv .null) (B.arv .null) (Or.inl ⟨rfl, hty⟩) h1 h2 h3 h4 h5 rfl (by simpa using h5) N ge hg hsize hs hd hf hW hlo
  refine ⟨T', h', L, X', e', N', K', (own_ofArv V').congr fun i hi => ?_, st⟩
  have hb : dp.toNatClampNeg ≤ z'.toNatClampNeg := by omega
  simp only [List.getD_eq_getElem?_getD]
  by_cases q1 : i < dp.toNatClampNeg
  · rw [if_neg (by omega), List.append_assoc, List.getElem?_append_left (by simp; omega), List.getElem?_take_of_lt q1]; simp [hi]
  · by_cases q2 : i < dp.toNatClampNeg + nn.toNatClampNeg
    · rw [if_pos ⟨by omega, q2⟩, List.append_assoc, List.getElem?_append_right (by simp; omega), List.getElem?_append_left (by simp; omega)]
      have e1 : min dp.toNatClampNeg z'.toNatClampNeg = dp.toNatClampNeg := Nat.min_eq_left hb
      simp only [List.length_take, List.length_map, List.length_range, e1]
      have e2 : i - dp.toNatClampNeg < nn.toNatClampNeg := by omega
      have e3 : sp.toNatClampNeg + (i - dp.toNatClampNeg) < n.toNatClampNeg := by omega
      simp [e2, e3]
    · rw [if_neg (by omega), List.getElem?_append_right (by simp; omega)]
      have e1 : min dp.toNatClampNeg z'.toNatClampNeg = dp.toNatClampNeg := Nat.min_eq_left hb
      simp only [List.length_append, List.length_take, List.length_map, List.length_range, e1, List.getElem?_drop]
      have e2 : dp.toNatClampNeg + nn.toNatClampNeg + (i - (dp.toNatClampNeg + nn.toNatClampNeg)) = i := by omega
      rw [e2]; simp [hi]
end OwnArr
def own_min (x y : Int32) : Int32 := if y < x then y else x
def own_P (g : Nat → Int32) : Nat → Value := fun i => .int (g i)
def own_3 (a b c : Int32) : Nat → Int32 := fun i => if i = 0 then a else if i = 1 then b else c
def own_4 (a b c d : Int32) : Nat → Int32 := fun i => if i = 0 then a else if i = 1 then b else if i = 2 then c else d
def own_9 (x : Int32) : Nat → Int32 := fun i => if i = 0 then x else if i = 1 then x + 3 else if i = 2 then x + 6 else if i = 3 then x + 9 else if i = 4 then x + 12 else if i = 5 then x + 15 else if i = 6 then x + 18 else if i = 7 then x + 21 else x + 24
def own_ok (lo hi : Int32) : Prop := 0 ≤ lo.toInt ∧ lo.toInt ≤ hi.toInt ∧ hi.toInt ≤ lo.toInt + 3 ∧ hi.toInt ≤ 9
def own_in9 (lo len : Int32) : Prop := 0 ≤ lo.toInt ∧ 0 ≤ len.toInt ∧ len.toInt ≤ 3 ∧ lo.toInt + len.toInt ≤ 9
def own_bs (d0 d1 d2 q : Int32) : Int32 := if d1 < q then (if d2 < q then -4 else if q < d2 then -3 else 2) else if q < d1 then (if d0 < q then -2 else if q < d0 then -1 else 0) else 1
theorem own_z9 : own_in9 0 (0 - 0) := by unfold own_in9; decide
theorem own_cn (x : Int32) (h : 0 ≤ x.toInt) : (x.toNatClampNeg : Int) = x.toInt := by show ((x.toInt.toNat : Nat) : Int) = _; omega
theorem own_ok.sub {lo hi : Int32} (h : own_ok lo hi) : (hi - lo).toInt = hi.toInt - lo.toInt := by
  obtain ⟨a, b, c, d⟩ := h
  exact XT.sub32 (by unfold XT.fits32; omega)
theorem own_ok.nlt {lo hi : Int32} (h : own_ok lo hi) : ¬ hi < lo := by rw [Int32.lt_iff_toInt_lt]; have := h.2.1; omega
theorem own_ok.n0 {lo hi : Int32} (h : own_ok lo hi) : ¬ hi - lo < 0 := by rw [Int32.lt_iff_toInt_lt, h.sub]; show ¬ _ < (0 : Int); have := h.2.1; omega
theorem own_ok.nn {lo hi : Int32} (h : own_ok lo hi) : ((hi - lo).toNatClampNeg : Int) = hi.toInt - lo.toInt := by rw [own_cn _ (by rw [h.sub]; have := h.2.1; omega), h.sub]
theorem own_ok.n3 {lo hi : Int32} (h : own_ok lo hi) : (hi - lo).toNatClampNeg ≤ 3 := by have := h.nn; have := h.2.2.1; omega
theorem own_ok.l0 {lo hi : Int32} (h : own_ok lo hi) : ¬ lo < 0 := by rw [Int32.lt_iff_toInt_lt]; show ¬ _ < (0 : Int); have := h.1; omega
theorem own_ok.n9 {lo hi : Int32} (h : own_ok lo hi) : lo.toNatClampNeg + (hi - lo).toNatClampNeg ≤ (9 : Int32).toNatClampNeg := by
  have := h.nn; have := own_cn lo h.1; have := h.2.2.2; show _ ≤ 9; omega
theorem own_ok.n99 {lo hi : Int32} (h : own_ok lo hi) (q : lo = 0) : ¬ hi = 9 := by
  intro z; subst q z; have := h.2.2.1; exact absurd this (by decide)
theorem own_z (n : Int32) : (0 : Int32).toNatClampNeg + n.toNatClampNeg ≤ n.toNatClampNeg := by show 0 + _ ≤ _; omega
theorem own_min9 {lo hi : Int32} (h : own_ok lo hi) : own_min (9 - lo) (hi - lo) = hi - lo := by
  unfold own_min
  split
  · rfl
  · rename_i q
    have e : ((9 : Int32) - lo).toInt = 9 - lo.toInt := by
      obtain ⟨a, b, c, d⟩ := h
      exact XT.sub32 (by show XT.fits32 (9 - lo.toInt); unfold XT.fits32; omega)
    rw [Int32.lt_iff_toInt_lt, e, h.sub] at q
    apply Int32.toInt_inj.mp; rw [e, h.sub]; have := h.2.2.2; omega
theorem own_cpR {g : Nat → Int32} {lo n : Int32} (i : Nat) (hi : i < n.toNatClampNeg) : (if (0 : Int32).toNatClampNeg ≤ i ∧ i < (0 : Int32).toNatClampNeg + n.toNatClampNeg then own_P g (lo.toNatClampNeg + (i - (0 : Int32).toNatClampNeg)) else (fun _ => (.int (0 : Int32) : Value)) i) = own_P g (lo.toNatClampNeg + i) := by
  have e0 : (0 : Int32).toNatClampNeg = 0 := rfl
  rw [e0, if_pos ⟨Nat.zero_le _, by omega⟩, Nat.sub_zero]
theorem own_no0 (i : Nat) : ¬ i < (0 : Int32).toNatClampNeg := by show ¬ i < 0; omega
theorem own_in9.n {lo len : Int32} (h : own_in9 lo len) : (len.toNatClampNeg : Int) = len.toInt := own_cn _ h.2.1
theorem own_i0 {len : Int32} (h : (0 : Int32) < len) : ¬ (0 : Int32) < 0 ∧ (0 : Int32) < len := ⟨by decide, h⟩
theorem own_i1 {len : Int32} (h : (1 : Int32) < len) : ¬ (1 : Int32) < 0 ∧ (1 : Int32) < len := ⟨by decide, h⟩
theorem own_i2 {len : Int32} (h : (2 : Int32) < len) : ¬ (2 : Int32) < 0 ∧ (2 : Int32) < len := ⟨by decide, h⟩
theorem own_jj {len : Int32} (k : Int32) (h0 : 0 ≤ k.toInt) (h : k < len) : k.toNatClampNeg < len.toNatClampNeg := by
  rw [Int32.lt_iff_toInt_lt] at h; have := own_cn k h0; have := own_cn len (by omega); omega
theorem own_j0 {len : Int32} (h : (0 : Int32) < len) : 0 < len.toNatClampNeg := own_jj 0 (by decide) h
theorem own_j1 {len : Int32} (h : (1 : Int32) < len) : 1 < len.toNatClampNeg := own_jj 1 (by decide) h
theorem own_j2 {len : Int32} (h : (2 : Int32) < len) : 2 < len.toNatClampNeg := own_jj 2 (by decide) h
theorem own_in9.add {lo len : Int32} (h : own_in9 lo len) (k : Int32) (h0 : 0 ≤ k.toInt) (q : k < len) : (lo + k).toInt = lo.toInt + k.toInt := by
  obtain ⟨a, b, c, d⟩ := h; rw [Int32.lt_iff_toInt_lt] at q; exact XT.add32 (by unfold XT.fits32; omega)
theorem own_in9.inn {lo len : Int32} (h : own_in9 lo len) (k : Int32) (h0 : 0 ≤ k.toInt) (q : k < len) : ¬ lo + k < 0 ∧ lo + k < 9 := by
  have e := h.add k h0 q
  obtain ⟨a, b, c, d⟩ := h; rw [Int32.lt_iff_toInt_lt] at q
  rw [Int32.lt_iff_toInt_lt, Int32.lt_iff_toInt_lt, e]
  exact ⟨by show ¬ _ < (0 : Int); omega, by show _ < (9 : Int); omega⟩
theorem own_in9.att {lo len : Int32} (h : own_in9 lo len) (k : Int32) (h0 : 0 ≤ k.toInt) (q : k < len) (g : Nat → Int32) : own_P g (lo + k).toNatClampNeg = .int (g (lo.toNatClampNeg + k.toNatClampNeg)) := by
  have e := h.add k h0 q
  have e1 := own_cn lo h.1; have e2 := own_cn k h0; have e3 := own_cn (lo + k) (by rw [e]; have := h.1; omega)
  have : (lo + k).toNatClampNeg = lo.toNatClampNeg + k.toNatClampNeg := by omega
  unfold own_P; rw [this]
theorem own_in9.in0 {lo len : Int32} (h : own_in9 lo len) (q : (0 : Int32) < len) : ¬ lo < 0 ∧ lo < 9 := by have := h.inn 0 (by decide) q; rwa [Int32.add_zero] at this
theorem own_in9.at0 {lo len : Int32} (h : own_in9 lo len) (q : (0 : Int32) < len) (g : Nat → Int32) : own_P g lo.toNatClampNeg = .int (g (lo.toNatClampNeg + 0)) := by have := h.att 0 (by decide) q g; rwa [Int32.add_zero] at this
theorem own_in9.in1 {lo len : Int32} (h : own_in9 lo len) (q : (1 : Int32) < len) : ¬ lo + 1 < 0 ∧ lo + 1 < 9 := h.inn 1 (by decide) q
theorem own_in9.at1 {lo len : Int32} (h : own_in9 lo len) (q : (1 : Int32) < len) (g : Nat → Int32) : own_P g (lo + 1).toNatClampNeg = .int (g (lo.toNatClampNeg + 1)) := h.att 1 (by decide) q g
theorem own_in9.in2 {lo len : Int32} (h : own_in9 lo len) (q : (2 : Int32) < len) : ¬ lo + 2 < 0 ∧ lo + 2 < 9 := h.inn 2 (by decide) q
theorem own_in9.at2 {lo len : Int32} (h : own_in9 lo len) (q : (2 : Int32) < len) (g : Nat → Int32) : own_P g (lo + 2).toNatClampNeg = .int (g (lo.toNatClampNeg + 2)) := h.att 2 (by decide) q g
theorem own_ok9 {lo hi : Int32} (h : own_ok lo hi) : own_in9 lo (hi - lo) := by
  have e := h.sub; obtain ⟨a, b, c, d⟩ := h; unfold own_in9; rw [e]; omega
def own_inc (d0 d1 d2 : Int32) : Prop := d0 < d1 ∧ d1 < d2
theorem own_b0 {d0 d1 d2 q : Int32} (h : own_inc d0 d1 d2) (e : q = d0) : own_bs d0 d1 d2 q = 0 := by
  subst e; obtain ⟨a, b⟩ := h
  have n1 : ¬ d1 < q := by rw [Int32.lt_iff_toInt_lt] at *; omega
  have n2 : ¬ q < q := by rw [Int32.lt_iff_toInt_lt]; omega
  unfold own_bs; rw [if_neg n1, if_pos a, if_neg n2, if_neg n2]
theorem own_b1 {d0 d1 d2 q : Int32} (h : own_inc d0 d1 d2) (e : q = d1) : own_bs d0 d1 d2 q = 1 := by
  subst e
  have n2 : ¬ q < q := by rw [Int32.lt_iff_toInt_lt]; omega
  unfold own_bs; rw [if_neg n2, if_neg n2]
theorem own_b2 {d0 d1 d2 q : Int32} (h : own_inc d0 d1 d2) (e : q = d2) : own_bs d0 d1 d2 q = 2 := by
  subst e; obtain ⟨a, b⟩ := h
  have n2 : ¬ q < q := by rw [Int32.lt_iff_toInt_lt]; omega
  unfold own_bs; rw [if_pos b, if_neg n2, if_neg n2]
theorem own_bN {d0 d1 d2 q : Int32} (h0 : ¬ q = d0) (h1 : ¬ q = d1) (h2 : ¬ q = d2) : own_bs d0 d1 d2 q < 0 := by
  have k : ∀ x y : Int32, ¬ x < y → ¬ y < x → x = y := fun x y a b => by rw [Int32.lt_iff_toInt_lt] at *; exact Int32.toInt_inj.mp (by omega)
  unfold own_bs
  split
  · split
    · decide
    · split
      · decide
      · rename_i a b c; exact absurd (k _ _ c b) h2
  · split
    · split
      · decide
      · split
        · decide
        · rename_i a b c d; exact absurd (k _ _ d c) h0
    · rename_i a b; exact absurd (k _ _ b a) h1
theorem own_and3 (x : Int32) : 0 ≤ (x &&& (3 : Int32)).toInt ∧ (x &&& (3 : Int32)).toInt ≤ 3 := by
  have l : (x &&& (3 : Int32)).toBitVec.toNat ≤ 3 := by rw [Int32.toBitVec_and, BitVec.toNat_and]; exact Nat.and_le_right
  have : (x &&& (3 : Int32)).toInt = (x &&& (3 : Int32)).toBitVec.toNat := by show (x &&& (3 : Int32)).toBitVec.toInt = _; exact BitVec.toInt_eq_toNat_of_lt (by omega)
  omega
theorem own_and26 (x : Int32) : 0 ≤ (x &&& (67108863 : Int32)).toInt ∧ (x &&& (67108863 : Int32)).toInt ≤ 67108863 := by
  have l : (x &&& (67108863 : Int32)).toBitVec.toNat ≤ 67108863 := by rw [Int32.toBitVec_and, BitVec.toNat_and]; exact Nat.and_le_right
  have : (x &&& (67108863 : Int32)).toInt = (x &&& (67108863 : Int32)).toBitVec.toNat := by show (x &&& (67108863 : Int32)).toBitVec.toInt = _; exact BitVec.toInt_eq_toNat_of_lt (by omega)
  omega
theorem own_sr2 (x : Int32) : -536870912 ≤ (x >>> ((2 : Int32) &&& 31)).toInt ∧ (x >>> ((2 : Int32) &&& 31)).toInt < 536870912 := by
  have e : (x >>> ((2 : Int32) &&& 31)).toInt = x.toInt / 4 := by
    show (x >>> ((2 : Int32) &&& 31)).toBitVec.toInt = _
    rw [Int32.toBitVec_shiftRight]
    show (x.toBitVec.sshiftRight' (((2 : Int32) &&& 31).toBitVec.smod 32)).toInt = _
    rw [BitVec.sshiftRight_eq', BitVec.toInt_sshiftRight]
    show x.toBitVec.toInt >>> 2 = _
    rw [Int.shiftRight_eq_div_pow]; rfl
  have := x.toInt_lt; have := x.le_toInt
  omega
theorem own_ds {p0 p1 y d0 d1 d2 : Int32} (h0 : d0 = p0 >>> ((2 : Int32) &&& 31)) (h1 : d1 = d0 + 1 + (p1 &&& (67108863 : Int32))) (h2 : d2 = d1 + 1 + (y &&& (67108863 : Int32))) : own_inc d0 d1 d2 := by
  have a := own_sr2 p0; rw [← h0] at a
  have b := own_and26 p1; have c := own_and26 y
  have e1 : (d0 + 1).toInt = d0.toInt + 1 := XT.add32 (x := d0) (y := 1) (by show XT.fits32 (d0.toInt + 1); unfold XT.fits32; omega)
  have e2 : d1.toInt = d0.toInt + 1 + (p1 &&& (67108863 : Int32)).toInt := by rw [h1, XT.add32 (by rw [e1]; unfold XT.fits32; omega), e1]
  have e3 : (d1 + 1).toInt = d1.toInt + 1 := XT.add32 (x := d1) (y := 1) (by show XT.fits32 (d1.toInt + 1); unfold XT.fits32; omega)
  have e4 : d2.toInt = d1.toInt + 1 + (y &&& (67108863 : Int32)).toInt := by rw [h2, XT.add32 (by rw [e3]; unfold XT.fits32; omega), e3]
  unfold own_inc; rw [Int32.lt_iff_toInt_lt, Int32.lt_iff_toInt_lt]; omega
def own_c3 (a b c : Int32) : Prop := (0 ≤ a.toInt ∧ a.toInt ≤ 3) ∧ (0 ≤ b.toInt ∧ b.toInt ≤ 3) ∧ 0 ≤ c.toInt ∧ c.toInt ≤ 3
theorem own_cs {x y z a b c : Int32} (h0 : a = x &&& (3 : Int32)) (h1 : b = y &&& (3 : Int32)) (h2 : c = z &&& (3 : Int32)) : own_c3 a b c := by
  subst h0 h1 h2; exact ⟨own_and3 _, own_and3 _, own_and3 _⟩
theorem own_ss {a b c s2 s3 : Int32} (h : own_c3 a b c) (h2 : s2 = a + b) (h3 : s3 = s2 + c) : own_ok 0 a ∧ own_ok a s2 ∧ own_ok s2 s3 := by
  obtain ⟨⟨a0, a1⟩, ⟨b0, b1⟩, c0, c1⟩ := h
  have e2 : s2.toInt = a.toInt + b.toInt := by rw [h2]; exact XT.add32 (by unfold XT.fits32; omega)
  have e3 : s3.toInt = s2.toInt + c.toInt := by rw [h3]; exact XT.add32 (by unfold XT.fits32; omega)
  have z : (0 : Int32).toInt = 0 := by decide
  unfold own_ok; rw [z]; omega

theorem own_d_jdk_29_method_69_code_0 : decode jdk_29_method_69_code 0 = .ok (.iload_n 0, 1) := by decide +kernel
theorem own_d_jdk_29_method_69_code_1 : decode jdk_29_method_69_code 1 = .ok (.iload_n 1, 1) := by decide +kernel
theorem own_d_jdk_29_method_69_code_2 : decode jdk_29_method_69_code 2 = .ok (.if_icmp .gt 7, 3) := by decide +kernel
theorem own_d_jdk_29_method_69_code_9 : decode jdk_29_method_69_code 9 = .ok (.iload_n 1, 1) := by decide +kernel
theorem own_d_jdk_29_method_69_code_10 : decode jdk_29_method_69_code 10 = .ok (.ireturn, 1) := by decide +kernel
theorem own_d_jdk_29_method_69_code_5 : decode jdk_29_method_69_code 5 = .ok (.iload_n 0, 1) := by decide +kernel
theorem own_d_jdk_29_method_69_code_6 : decode jdk_29_method_69_code 6 = .ok (.goto 4, 3) := by decide +kernel
theorem own_ef_rm1 (m : MethodId) (x0 : Int32) (x1 : Int32) : entryFrame m #[(.int x0), (.int x1)] 2 = mkF m 0 #[.val (.int x0), .val (.int x1)] [] := by first | (simp [entryFrame, mkF, argsToLocals, Value.category]; done) | rfl
def own_Q_rm1 (Z : State) (p1 : Int32) (p2 : Int32) (r : Int32) (h0 : Heap) (n0 : Nat) (v : Option Value) (h : Heap) (L : List Loc) : Prop := v = some (.int r) ∧ Fr n0 L ∧ h = h0
set_option maxRecDepth 65536 in
set_option maxHeartbeats 40000000 in
theorem rm1 (l : Launch) (Z : State) (a0 : Array Value) (hw : ∀ d ∈ tables_1, d.before a0 Z = true) (ws : List Jvm.Cond) (p1 : Int32) (p2 : Int32) (r : Int32) (h0 : Heap) (n0 : Nat) (Z0 : n0 ≤ h0.size) (hr : own_min p1 p2 = r) :
    OMet l Z (⟨"java/lang/Math", "min", "(II)I"⟩ : MethodName) jdk_29_method_69_code 2 (some .int) ws ({ frames := 0, cells := 0, slots := 0, locals := 0 } : Room) #[(.int p1), (.int p2)] h0 (own_Q_rm1 Z p1 p2 r h0 n0) := by
  refine MetFree.of_bodySF (Jvm.Free.JP.mathPlain rfl (by decide +kernel)) hisR ?_
  intro p e s m args below meth c s₁ Bd hml0 hP hK
  obtain ⟨rfl, hZ, hh⟩ := hP
  have hx := Bd.exec
  have hby := Bd.bytes
  have hml : c.maxLocals = 2 := hml0
  have hown : s.vm.findClass "java/lang/Math" = some m.cls := findClass_of_methodNamed Bd.named
  have hnm := (name_of_methodNamed Bd.named Bd.method).1
  have hlk : meth.locks = false := Bd.notSynchronized
  have X0 : Stand p l e ({ frames := 0, cells := 0, slots := 0, locals := 0 } : Room) s m #[(.int p1), (.int p2)] below meth c s₁ [] 0 0 := Stand.of_body Bd
  have e0 : s₁.heap = h0 := by rw [← hh, Bd.state]; rfl
  have N0 := Fr.nil n0
  refine OGo.enter (P := OPost s (own_Q_rm1 Z p1 p2 r h0 n0) 0 0) (own_ef_rm1 m p1 p2) ?_
  show OGo p.tables e below _ (s₁.setTop (mkF m 0 #[.val (.int p1), .val (.int p2)] []))
  refine OGo.st (fun _ k_ => XS.iloadN X0.here hx rfl (hb hby own_d_jdk_29_method_69_code_0) rfl k_) ?_
  show OGo p.tables e below _ (s₁.setTop (mkF m 1 #[.val (.int p1), .val (.int p2)] [(.int p1)]))
  refine OGo.st (fun _ k_ => XS.iloadN X0.here hx rfl (hb hby own_d_jdk_29_method_69_code_1) rfl k_) ?_
  show OGo p.tables e below _ (s₁.setTop (mkF m 2 #[.val (.int p1), .val (.int p2)] [(.int p2), (.int p1)]))
  by_cases hc2 : p2 < p1
  · refine OGo.st (fun _ k_ => XS.icmpYes X0.here hx rfl (pc0 := 2) (pc' := 9) rfl (hb hby own_d_jdk_29_method_69_code_2) rfl (XT.ii_gt_t hc2) (by decide) (by decide) k_) ?_
    show OGo p.tables e below _ (s₁.setTop (mkF m 9 #[.val (.int p1), .val (.int p2)] []))
    refine OGo.st (fun _ k_ => XS.iloadN X0.here hx rfl (hb hby own_d_jdk_29_method_69_code_9) rfl k_) ?_
    show OGo p.tables e below _ (s₁.setTop (mkF m 10 #[.val (.int p1), .val (.int p2)] [(.int p2)]))
    refine OGo.fin X0 (v := some (.int p2)) (fun h => by rw [Bd.returns] at h; cases h) hlk (fun fs hr => X0.ireturnOut hx Bd.returns rfl (Or.inl rfl) (hb hby own_d_jdk_29_method_69_code_10) hr) ?_ (by decide) (by decide)
    show own_Q_rm1 Z p1 p2 r h0 n0 _ s₁.heap _
    rw [e0]
    exact ⟨by rw [← hr]; simp [own_min, hc2], N0, rfl⟩
  · refine OGo.st (fun _ k_ => XS.icmpNo X0.here hx rfl (hb hby own_d_jdk_29_method_69_code_2) rfl (XT.ii_gt_f hc2) k_) ?_
    show OGo p.tables e below _ (s₁.setTop (mkF m 5 #[.val (.int p1), .val (.int p2)] []))
    refine OGo.st (fun _ k_ => XS.iloadN X0.here hx rfl (hb hby own_d_jdk_29_method_69_code_5) rfl k_) ?_
    show OGo p.tables e below _ (s₁.setTop (mkF m 6 #[.val (.int p1), .val (.int p2)] [(.int p1)]))
    refine OGo.st (fun _ k_ => XS.goto X0.here hx rfl (pc0 := 6) (pc' := 10) rfl (hb hby own_d_jdk_29_method_69_code_6) (by decide) (by decide) k_) ?_
    show OGo p.tables e below _ (s₁.setTop (mkF m 10 #[.val (.int p1), .val (.int p2)] [(.int p1)]))
    refine OGo.fin X0 (v := some (.int p1)) (fun h => by rw [Bd.returns] at h; cases h) hlk (fun fs hr => X0.ireturnOut hx Bd.returns rfl (Or.inl rfl) (hb hby own_d_jdk_29_method_69_code_10) hr) ?_ (by decide) (by decide)
    show own_Q_rm1 Z p1 p2 r h0 n0 _ s₁.heap _
    rw [e0]
    exact ⟨by rw [← hr]; simp [own_min, hc2], N0, rfl⟩
theorem own_d_jdk_65_method_131_code_0 : decode jdk_65_method_131_code 0 = .ok (.iload_n 1, 1) := by decide +kernel
theorem own_d_jdk_65_method_131_code_1 : decode jdk_65_method_131_code 1 = .ok (.iload_n 0, 1) := by decide +kernel
theorem own_d_jdk_65_method_131_code_2 : decode jdk_65_method_131_code 2 = .ok (.if_icmp .ge 35, 3) := by decide +kernel
theorem own_d_jdk_65_method_131_code_37 : decode jdk_65_method_131_code 37 = .ok (.return_, 1) := by decide +kernel
theorem own_pn0 : plainName "java/util/Arrays" = true := by first | (simp [plainName, overriddenIn]; done) | decide +kernel
theorem own_ef_rm2 (m : MethodId) (x0 : Int32) (x1 : Int32) : entryFrame m #[(.int x0), (.int x1)] 2 = mkF m 0 #[.val (.int x0), .val (.int x1)] [] := by first | (simp [entryFrame, mkF, argsToLocals, Value.category]; done) | rfl
def own_Q_rm2 (Z : State) (p1 : Int32) (p2 : Int32) (h0 : Heap) (n0 : Nat) (v : Option Value) (h : Heap) (L : List Loc) : Prop := v = none ∧ Fr n0 L ∧ h = h0
set_option maxRecDepth 65536 in
set_option maxHeartbeats 40000000 in
theorem rm2 (l : Launch) (Z : State) (a0 : Array Value) (hw : ∀ d ∈ tables_1, d.before a0 Z = true) (ws : List Jvm.Cond) (p1 : Int32) (p2 : Int32) (h0 : Heap) (n0 : Nat) (Z0 : n0 ≤ h0.size) (ok : own_ok p1 p2) :
    OMet l Z (⟨"java/util/Arrays", "checkLength", "(II)V"⟩ : MethodName) jdk_65_method_131_code 2 none ws ({ frames := 0, cells := 0, slots := 0, locals := 0 } : Room) #[(.int p1), (.int p2)] h0 (own_Q_rm2 Z p1 p2 h0 n0) := by
  refine MetFree.of_bodySF (plainFor_of_name own_pn0) hisR ?_
  intro p e s m args below meth c s₁ Bd hml0 hP hK
  obtain ⟨rfl, hZ, hh⟩ := hP
  have hx := Bd.exec
  have hby := Bd.bytes
  have hml : c.maxLocals = 2 := hml0
  have hown : s.vm.findClass "java/util/Arrays" = some m.cls := findClass_of_methodNamed Bd.named
  have hnm := (name_of_methodNamed Bd.named Bd.method).1
  have hlk : meth.locks = false := Bd.notSynchronized
  have X0 : Stand p l e ({ frames := 0, cells := 0, slots := 0, locals := 0 } : Room) s m #[(.int p1), (.int p2)] below meth c s₁ [] 0 0 := Stand.of_body Bd
  have e0 : s₁.heap = h0 := by rw [← hh, Bd.state]; rfl
  have N0 := Fr.nil n0
  refine OGo.enter (P := OPost s (own_Q_rm2 Z p1 p2 h0 n0) 0 0) (own_ef_rm2 m p1 p2) ?_
  show OGo p.tables e below _ (s₁.setTop (mkF m 0 #[.val (.int p1), .val (.int p2)] []))
  refine OGo.st (fun _ k_ => XS.iloadN X0.here hx rfl (hb hby own_d_jdk_65_method_131_code_0) rfl k_) ?_
  show OGo p.tables e below _ (s₁.setTop (mkF m 1 #[.val (.int p1), .val (.int p2)] [(.int p2)]))
  refine OGo.st (fun _ k_ => XS.iloadN X0.here hx rfl (hb hby own_d_jdk_65_method_131_code_1) rfl k_) ?_
  show OGo p.tables e below _ (s₁.setTop (mkF m 2 #[.val (.int p1), .val (.int p2)] [(.int p1), (.int p2)]))
  refine OGo.st (fun _ k_ => XS.icmpYes X0.here hx rfl (pc0 := 2) (pc' := 37) rfl (hb hby own_d_jdk_65_method_131_code_2) rfl (XT.ii_ge_t ok.nlt) (by decide) (by decide) k_) ?_
  show OGo p.tables e below _ (s₁.setTop (mkF m 37 #[.val (.int p1), .val (.int p2)] []))
  refine OGo.fin X0 (v := none) (fun _ => rfl) hlk (fun fs hr => X0.returnOut hx Bd.returns (hb hby own_d_jdk_65_method_131_code_37) hr) ?_ (by decide) (by decide)
  show own_Q_rm2 Z p1 p2 h0 n0 _ s₁.heap _
  rw [e0]
  exact ⟨rfl, N0, rfl⟩
theorem own_d_jdk_65_method_137_code_0 : decode jdk_65_method_137_code 0 = .ok (.iload_n 1, 1) := by decide +kernel
theorem own_d_jdk_65_method_137_code_1 : decode jdk_65_method_137_code 1 = .ok (.iload_n 2, 1) := by decide +kernel
theorem own_d_jdk_65_method_137_code_2 : decode jdk_65_method_137_code 2 = .ok (.invokestatic 343, 3) := by decide +kernel
theorem own_pd0 : parseMethodDescriptor "(II)V" = some ⟨[.int, .int], none⟩ := by decide +kernel
theorem own_d_jdk_65_method_137_code_5 : decode jdk_65_method_137_code 5 = .ok (.iload_n 2, 1) := by decide +kernel
theorem own_d_jdk_65_method_137_code_6 : decode jdk_65_method_137_code 6 = .ok (.iload_n 1, 1) := by decide +kernel
theorem own_d_jdk_65_method_137_code_7 : decode jdk_65_method_137_code 7 = .ok (.isub, 1) := by decide +kernel
theorem own_d_jdk_65_method_137_code_8 : decode jdk_65_method_137_code 8 = .ok (.istore_n 3, 1) := by decide +kernel
theorem own_d_jdk_65_method_137_code_9 : decode jdk_65_method_137_code 9 = .ok (.iload_n 3, 1) := by decide +kernel
theorem own_d_jdk_65_method_137_code_10 : decode jdk_65_method_137_code 10 = .ok (.newarray .int, 2) := by decide +kernel
theorem own_d_jdk_65_method_137_code_12 : decode jdk_65_method_137_code 12 = .ok (.astore 4, 2) := by decide +kernel
theorem own_d_jdk_65_method_137_code_14 : decode jdk_65_method_137_code 14 = .ok (.aload_n 0, 1) := by decide +kernel
theorem own_d_jdk_65_method_137_code_15 : decode jdk_65_method_137_code 15 = .ok (.iload_n 1, 1) := by decide +kernel
theorem own_d_jdk_65_method_137_code_16 : decode jdk_65_method_137_code 16 = .ok (.aload 4, 2) := by decide +kernel
theorem own_d_jdk_65_method_137_code_18 : decode jdk_65_method_137_code 18 = .ok (.iconst 0, 1) := by decide +kernel
theorem own_d_jdk_65_method_137_code_19 : decode jdk_65_method_137_code 19 = .ok (.aload_n 0, 1) := by decide +kernel
theorem own_d_jdk_65_method_137_code_20 : decode jdk_65_method_137_code 20 = .ok (.arraylength, 1) := by decide +kernel
theorem own_d_jdk_65_method_137_code_21 : decode jdk_65_method_137_code 21 = .ok (.iload_n 1, 1) := by decide +kernel
theorem own_d_jdk_65_method_137_code_22 : decode jdk_65_method_137_code 22 = .ok (.isub, 1) := by decide +kernel
theorem own_d_jdk_65_method_137_code_23 : decode jdk_65_method_137_code 23 = .ok (.iload_n 3, 1) := by decide +kernel
theorem own_d_jdk_65_method_137_code_24 : decode jdk_65_method_137_code 24 = .ok (.invokestatic 304, 3) := by decide +kernel
theorem own_pd1 : parseMethodDescriptor "(II)I" = some ⟨[.int, .int], some .int⟩ := by decide +kernel
theorem own_d_jdk_65_method_137_code_27 : decode jdk_65_method_137_code 27 = .ok (.invokestatic 150, 3) := by decide +kernel
theorem own_d_jdk_65_method_137_code_30 : decode jdk_65_method_137_code 30 = .ok (.aload 4, 2) := by decide +kernel
theorem own_d_jdk_65_method_137_code_32 : decode jdk_65_method_137_code 32 = .ok (.areturn, 1) := by decide +kernel
theorem own_ef_rm3 (m : MethodId) (x0 : Addr) (x1 : Int32) (x2 : Int32) : entryFrame m #[(.ref x0), (.int x1), (.int x2)] 5 = mkF m 0 #[.val (.ref x0), .val (.int x1), .val (.int x2), .unset, .unset] [] := by first | (simp [entryFrame, mkF, argsToLocals, Value.category]; done) | rfl
def own_Q_rm3 (Z : State) (c1 : Addr) (p2 : Int32) (p3 : Int32) (k1 : ClassId) (g : Nat → Int32) (h0 : Heap) (n0 : Nat) (v : Option Value) (h : Heap) (L : List Loc) : Prop := ∃ (r : Addr) (k : ClassId), v = some (.ref r) ∧ Fr n0 L ∧ Keep h0 h [] ∧ h0.size ≤ r ∧ Arf Z h r k .int (p3 - p2) (fun i => own_P g (p2.toNatClampNeg + i))
set_option maxRecDepth 65536 in
set_option maxHeartbeats 40000000 in
theorem rm3 (l : Launch) (Z : State) (a0 : Array Value) (hw : ∀ d ∈ tables_1, d.before a0 Z = true) (ws : List Jvm.Cond) (c1 : Addr) (p2 : Int32) (p3 : Int32) (k1 : ClassId) (g : Nat → Int32) (h0 : Heap) (n0 : Nat) (Z0 : n0 ≤ h0.size) (A_c1 : Arf Z h0 c1 k1 .int 9 (own_P g)) (ok : own_ok p2 p3) :
    OMet l Z (⟨"java/util/Arrays", "copyOfRangeInt", "([III)[I"⟩ : MethodName) jdk_65_method_137_code 5 (some (.array .int)) ws ({ frames := 1, cells := 1, slots := 3, locals := 18 } : Room) #[(.ref c1), (.int p2), (.int p3)] h0 (own_Q_rm3 Z c1 p2 p3 k1 g h0 n0) := by
  refine MetFree.of_bodySF (plainFor_of_name own_pn0) hisR ?_
  intro p e s m args below meth c s₁ Bd hml0 hP hK
  obtain ⟨rfl, hZ, hh⟩ := hP
  have hx := Bd.exec
  have hby := Bd.bytes
  have hml : c.maxLocals = 5 := hml0
  have hown : s.vm.findClass "java/util/Arrays" = some m.cls := findClass_of_methodNamed Bd.named
  have hnm := (name_of_methodNamed Bd.named Bd.method).1
  have hlk : meth.locks = false := Bd.notSynchronized
  have X0 : Stand p l e ({ frames := 1, cells := 1, slots := 3, locals := 18 } : Room) s m #[(.ref c1), (.int p2), (.int p3)] below meth c s₁ [] 0 0 := Stand.of_body Bd
  have e0 : s₁.heap = h0 := by rw [← hh, Bd.state]; rfl
  have N0 := Fr.nil n0
  refine OGo.enter (P := OPost s (own_Q_rm3 Z c1 p2 p3 k1 g h0 n0) 1 3) (own_ef_rm3 m c1 p2 p3) ?_
  show OGo p.tables e below _ (s₁.setTop (mkF m 0 #[.val (.ref c1), .val (.int p2), .val (.int p3), .unset, .unset] []))
  refine OGo.st (fun _ k_ => XS.iloadN X0.here hx rfl (hb hby own_d_jdk_65_method_137_code_0) rfl k_) ?_
  show OGo p.tables e below _ (s₁.setTop (mkF m 1 #[.val (.ref c1), .val (.int p2), .val (.int p3), .unset, .unset] [(.int p2)]))
  refine OGo.st (fun _ k_ => XS.iloadN X0.here hx rfl (hb hby own_d_jdk_65_method_137_code_1) rfl k_) ?_
  show OGo p.tables e below _ (s₁.setTop (mkF m 2 #[.val (.ref c1), .val (.int p2), .val (.int p3), .unset, .unset] [(.int p3), (.int p2)]))
  obtain ⟨_, _, ⟨T1, Lz1, kz1, nz1⟩, -, X1, ⟨Lc1, hQ1, lz1, yz1, zz1⟩, st1⟩ := Jvm.LawKit.callS X0 hx (y := (⟨"java/util/Arrays", "checkLength", "(II)V"⟩ : MethodName)) hown (mvT hZ (hw _ (List.mem_of_getElem? (i := 35) rfl))) (mvT hZ (hw _ (List.mem_of_getElem? (i := 36) rfl))) (mvT hZ (hw _ (List.mem_of_getElem? (i := 24) rfl))) (mvT hZ (hw _ (List.mem_of_getElem? (i := 37) rfl))) (by decide) (backOf (W := 0) (rm2 l Z a0 hw [] p2 p3 h0 n0 (Nat.le_trans Z0 (Keep.refl h0 []).1) ok) hZ (hw _ (List.mem_of_getElem? (i := 37) rfl)) (hw _ (List.mem_of_getElem? (i := 24) rfl)) (by decide) (by decide)) (g := (mkF m 2 #[.val (.ref c1), .val (.int p2), .val (.int p3), .unset, .unset] [(.int p3), (.int p2)])) rfl (by rw [hml]; rfl) (argsL := [(.int p2), (.int p3)]) (rest := []) (lenOf own_pd0 rfl) rfl (by show 2 * 0 + _ ≤ _; exact Nat.le_of_eq rfl) (hb hby own_d_jdk_65_method_137_code_2) (fun _ _ => ⟨rfl, e0, (by decide : 0 + 0 ≤ _), (by decide : 0 + 0 ≤ _)⟩)
  dsimp only [Pt.U, Pt.locs, Pt.cells, Pt.slots] at X1 lz1 yz1 zz1 st1 hQ1
  have X1 := own_reb X1 lz1 yz1 zz1
  have X1 : Stand p l e ({ frames := 1, cells := 1, slots := 3, locals := 18 } : Room) s m #[(.ref c1), (.int p2), (.int p3)] below meth c T1 _ 0 0 := X1
  obtain ⟨hvq1, Nq1, ez1⟩ := hQ1
  rw [hvq1] at st1
  have N1 := Fr.app N0 Nq1
  refine OGo.st st1 ?_
  show OGo p.tables e below _ (T1.setTop (mkF m 5 #[.val (.ref c1), .val (.int p2), .val (.int p3), .unset, .unset] []))
  refine OGo.st (fun _ k_ => XS.iloadN X1.here hx rfl (hb hby own_d_jdk_65_method_137_code_5) rfl k_) ?_
  show OGo p.tables e below _ (T1.setTop (mkF m 6 #[.val (.ref c1), .val (.int p2), .val (.int p3), .unset, .unset] [(.int p3)]))
  refine OGo.st (fun _ k_ => XS.iloadN X1.here hx rfl (hb hby own_d_jdk_65_method_137_code_6) rfl k_) ?_
  show OGo p.tables e below _ (T1.setTop (mkF m 7 #[.val (.ref c1), .val (.int p2), .val (.int p3), .unset, .unset] [(.int p2), (.int p3)]))
  refine OGo.st (fun _ k_ => XS.isub X1.here hx rfl (hb hby own_d_jdk_65_method_137_code_7) rfl k_) ?_
  show OGo p.tables e below _ (T1.setTop (mkF m 8 #[.val (.ref c1), .val (.int p2), .val (.int p3), .unset, .unset] [(.int (p3 - p2))]))
  refine OGo.st (fun _ k_ => XS.istoreN X1.here hx rfl (hb hby own_d_jdk_65_method_137_code_8) rfl (l' := #[.val (.ref c1), .val (.int p2), .val (.int p3), .val (.int (p3 - p2)), .unset]) rfl k_) ?_
  show OGo p.tables e below _ (T1.setTop (mkF m 9 #[.val (.ref c1), .val (.int p2), .val (.int p3), .val (.int (p3 - p2)), .unset] []))
  refine OGo.st (fun _ k_ => XS.iloadN X1.here hx rfl (hb hby own_d_jdk_65_method_137_code_9) rfl k_) ?_
  show OGo p.tables e below _ (T1.setTop (mkF m 10 #[.val (.ref c1), .val (.int p2), .val (.int p3), .val (.int (p3 - p2)), .unset] [(.int (p3 - p2))]))
  obtain ⟨T2, hz2, kz2, X2, ez2, Ez2, Az2, st2⟩ := newP X1 hx hZ (hw _ (List.mem_of_getElem? (i := 1) rfl)) ez1 (g := (mkF m 10 #[.val (.ref c1), .val (.int p2), .val (.int p3), .val (.int (p3 - p2)), .unset] [(.int (p3 - p2))])) rfl (hb hby own_d_jdk_65_method_137_code_10) rfl ok.n0 (cap := 3) ok.n3 (by decide) (by decide) (by decide)
  obtain ⟨bz2, g2⟩ : ∃ z, z = h0.size := ⟨_, rfl⟩
  rw [← g2] at Az2 st2
  have lt_c1_bz2 : @LT.lt Nat instLTNat c1 bz2 := Nat.lt_of_lt_of_le A_c1.lt (Nat.le_of_eq g2.symm)
  have g_bz2 : n0 ≤ bz2 := Nat.le_trans (Nat.le_trans Z0 (Keep.refl h0 []).1) (Nat.le_of_eq g2.symm)
  have sz_bz2 : h0.size ≤ bz2 := Nat.le_trans (Keep.refl h0 []).1 (Nat.le_of_eq g2.symm)
  have Af_3 := A_c1.ext Ez2
  have K_4 : Keep h0 hz2 [] := (Keep.refl h0 []).ext Ez2
  have V_bz2 : Arf Z hz2 bz2 kz2 .int (p3 - p2) (fun _ => (.int (0 : Int32))) := own_new Az2 ok.n0
  refine OGo.st st2 ?_
  show OGo p.tables e below _ (T2.setTop (mkF m 12 #[.val (.ref c1), .val (.int p2), .val (.int p3), .val (.int (p3 - p2)), .unset] [(.ref bz2)]))
  refine OGo.st (fun _ k_ => XS.astore X2.here hx rfl (hb hby own_d_jdk_65_method_137_code_12) rfl rfl (l' := #[.val (.ref c1), .val (.int p2), .val (.int p3), .val (.int (p3 - p2)), .val (.ref bz2)]) rfl k_) ?_
  show OGo p.tables e below _ (T2.setTop (mkF m 14 #[.val (.ref c1), .val (.int p2), .val (.int p3), .val (.int (p3 - p2)), .val (.ref bz2)] []))
  refine OGo.st (fun _ k_ => XS.aloadN X2.here hx rfl (hb hby own_d_jdk_65_method_137_code_14) rfl rfl k_) ?_
  show OGo p.tables e below _ (T2.setTop (mkF m 15 #[.val (.ref c1), .val (.int p2), .val (.int p3), .val (.int (p3 - p2)), .val (.ref bz2)] [(.ref c1)]))
  refine OGo.st (fun _ k_ => XS.iloadN X2.here hx rfl (hb hby own_d_jdk_65_method_137_code_15) rfl k_) ?_
  show OGo p.tables e below _ (T2.setTop (mkF m 16 #[.val (.ref c1), .val (.int p2), .val (.int p3), .val (.int (p3 - p2)), .val (.ref bz2)] [(.int p2), (.ref c1)]))
  refine OGo.st (fun _ k_ => XS.aload X2.here hx rfl (hb hby own_d_jdk_65_method_137_code_16) rfl rfl k_) ?_
  show OGo p.tables e below _ (T2.setTop (mkF m 18 #[.val (.ref c1), .val (.int p2), .val (.int p3), .val (.int (p3 - p2)), .val (.ref bz2)] [(.ref bz2), (.int p2), (.ref c1)]))
  refine OGo.st (fun _ k_ => XS.iconst X2.here hx rfl (hb hby own_d_jdk_65_method_137_code_18) k_) ?_
  show OGo p.tables e below _ (T2.setTop (mkF m 19 #[.val (.ref c1), .val (.int p2), .val (.int p3), .val (.int (p3 - p2)), .val (.ref bz2)] [(.int (0 : Int32)), (.ref bz2), (.int p2), (.ref c1)]))
  refine OGo.st (fun _ k_ => XS.aloadN X2.here hx rfl (hb hby own_d_jdk_65_method_137_code_19) rfl rfl k_) ?_
  show OGo p.tables e below _ (T2.setTop (mkF m 20 #[.val (.ref c1), .val (.int p2), .val (.int p3), .val (.int (p3 - p2)), .val (.ref bz2)] [(.ref c1), (.int (0 : Int32)), (.ref bz2), (.int p2), (.ref c1)]))
  have qz5 := own_alen X2 hx hZ ez2 Af_3 (g := (mkF m 20 #[.val (.ref c1), .val (.int p2), .val (.int p3), .val (.int (p3 - p2)), .val (.ref bz2)] [(.ref c1), (.int (0 : Int32)), (.ref bz2), (.int p2), (.ref c1)])) rfl rfl (hb hby own_d_jdk_65_method_137_code_20)
  refine OGo.st qz5 ?_
  show OGo p.tables e below _ (T2.setTop (mkF m 21 #[.val (.ref c1), .val (.int p2), .val (.int p3), .val (.int (p3 - p2)), .val (.ref bz2)] [(.int (9 : Int32)), (.int (0 : Int32)), (.ref bz2), (.int p2), (.ref c1)]))
  refine OGo.st (fun _ k_ => XS.iloadN X2.here hx rfl (hb hby own_d_jdk_65_method_137_code_21) rfl k_) ?_
  show OGo p.tables e below _ (T2.setTop (mkF m 22 #[.val (.ref c1), .val (.int p2), .val (.int p3), .val (.int (p3 - p2)), .val (.ref bz2)] [(.int p2), (.int (9 : Int32)), (.int (0 : Int32)), (.ref bz2), (.int p2), (.ref c1)]))
  refine OGo.st (fun _ k_ => XS.isub X2.here hx rfl (hb hby own_d_jdk_65_method_137_code_22) rfl k_) ?_
  show OGo p.tables e below _ (T2.setTop (mkF m 23 #[.val (.ref c1), .val (.int p2), .val (.int p3), .val (.int (p3 - p2)), .val (.ref bz2)] [(.int ((9 : Int32) - p2)), (.int (0 : Int32)), (.ref bz2), (.int p2), (.ref c1)]))
  refine OGo.st (fun _ k_ => XS.iloadN X2.here hx rfl (hb hby own_d_jdk_65_method_137_code_23) rfl k_) ?_
  show OGo p.tables e below _ (T2.setTop (mkF m 24 #[.val (.ref c1), .val (.int p2), .val (.int p3), .val (.int (p3 - p2)), .val (.ref bz2)] [(.int (p3 - p2)), (.int ((9 : Int32) - p2)), (.int (0 : Int32)), (.ref bz2), (.int p2), (.ref c1)]))
  obtain ⟨_, _, ⟨T6, Lz6, kz6, nz6⟩, -, X6, ⟨Lc6, hQ6, lz6, yz6, zz6⟩, st6⟩ := Jvm.LawKit.callS X2 hx (y := (⟨"java/lang/Math", "min", "(II)I"⟩ : MethodName)) hown (mvT hZ (hw _ (List.mem_of_getElem? (i := 38) rfl))) (mvT hZ (hw _ (List.mem_of_getElem? (i := 39) rfl))) (mvT hZ (hw _ (List.mem_of_getElem? (i := 40) rfl))) (mvT hZ (hw _ (List.mem_of_getElem? (i := 41) rfl))) (by decide) (backOf (W := 4) (rm1 l Z a0 hw [] ((9 : Int32) - p2) (p3 - p2) (p3 - p2) hz2 n0 (Nat.le_trans Z0 K_4.1) (own_min9 ok)) hZ (hw _ (List.mem_of_getElem? (i := 41) rfl)) (hw _ (List.mem_of_getElem? (i := 40) rfl)) (by decide) (by decide)) (g := (mkF m 24 #[.val (.ref c1), .val (.int p2), .val (.int p3), .val (.int (p3 - p2)), .val (.ref bz2)] [(.int (p3 - p2)), (.int ((9 : Int32) - p2)), (.int (0 : Int32)), (.ref bz2), (.int p2), (.ref c1)])) rfl (by rw [hml]; rfl) (argsL := [(.int ((9 : Int32) - p2)), (.int (p3 - p2))]) (rest := [(.int (0 : Int32)), (.ref bz2), (.int p2), (.ref c1)]) (lenOf own_pd1 rfl) rfl (by show 2 * 0 + _ ≤ _; exact Nat.le_of_eq rfl) (hb hby own_d_jdk_65_method_137_code_24) (fun _ _ => ⟨rfl, ez2, (by decide : 1 + 0 ≤ _), (by decide : 3 + 0 ≤ _)⟩)
  dsimp only [Pt.U, Pt.locs, Pt.cells, Pt.slots] at X6 lz6 yz6 zz6 st6 hQ6
  have X6 := own_reb X6 lz6 yz6 zz6
  have X6 : Stand p l e ({ frames := 1, cells := 1, slots := 3, locals := 18 } : Room) s m #[(.ref c1), (.int p2), (.int p3)] below meth c T6 _ 1 3 := X6
  obtain ⟨hvq6, Nq6, ez6⟩ := hQ6
  rw [hvq6] at st6
  have N6 := Fr.app N1 Nq6
  refine OGo.st st6 ?_
  show OGo p.tables e below _ (T6.setTop (mkF m 27 #[.val (.ref c1), .val (.int p2), .val (.int p3), .val (.int (p3 - p2)), .val (.ref bz2)] [(.int (p3 - p2)), (.int (0 : Int32)), (.ref bz2), (.int p2), (.ref c1)]))
  obtain ⟨T7, hz7, L7, X7, ez7, N7, Kq7, V7, st7⟩ := own_copy X6 hx hZ hown (hw _ (List.mem_of_getElem? (i := 42) rfl)) (hw _ (List.mem_of_getElem? (i := 45) rfl)) (hw _ (List.mem_of_getElem? (i := 43) rfl)) (hw _ (List.mem_of_getElem? (i := 44) rfl)) ez6 Af_3 V_bz2 rfl (sp := p2) (dp := (0 : Int32)) (nn := (p3 - p2)) ok.l0 (by decide) ok.n0 ok.n9 (own_z _) N6 g_bz2 (g := (mkF m 27 #[.val (.ref c1), .val (.int p2), .val (.int p3), .val (.int (p3 - p2)), .val (.ref bz2)] [(.int (p3 - p2)), (.int (0 : Int32)), (.ref bz2), (.int p2), (.ref c1)])) rfl (by rw [hml]; rfl) rfl (hb hby own_d_jdk_65_method_137_code_27) (by decide) (W := 0) (by show 2 * 0 + _ ≤ _; exact Nat.le_of_eq rfl) (by decide)
  have Af_8 := Af_3.keep Kq7 (ninS (Nat.ne_of_lt lt_c1_bz2) nin0)
  have K_9 : Keep h0 hz7 [] := K_4.trans Kq7 (allS (Or.inr sz_bz2) all0)
  refine OGo.st st7 ?_
  have Af_10 : Arf Z hz7 bz2 kz2 .int (p3 - p2) (fun i => own_P g (p2.toNatClampNeg + i)) := V7.congr (fun i hi => own_cpR i hi)
  show OGo p.tables e below _ (T7.setTop (mkF m 30 #[.val (.ref c1), .val (.int p2), .val (.int p3), .val (.int (p3 - p2)), .val (.ref bz2)] []))
  refine OGo.st (fun _ k_ => XS.aload X7.here hx rfl (hb hby own_d_jdk_65_method_137_code_30) rfl rfl k_) ?_
  show OGo p.tables e below _ (T7.setTop (mkF m 32 #[.val (.ref c1), .val (.int p2), .val (.int p3), .val (.int (p3 - p2)), .val (.ref bz2)] [(.ref bz2)]))
  refine OGo.fin X7 (v := some (.ref bz2)) (fun h => by rw [Bd.returns] at h; cases h) hlk (fun fs hr => X7.areturnOut hx rfl Bd.returns rfl (hb hby own_d_jdk_65_method_137_code_32) hr) ?_ (by decide) (by decide)
  show own_Q_rm3 Z c1 p2 p3 k1 g h0 n0 _ T7.heap _
  rw [ez7]
  exact ⟨_, _, rfl, N7, K_9, sz_bz2, Af_10⟩
theorem own_d_jdk_65_method_136_code_0 : decode jdk_65_method_136_code 0 = .ok (.iload_n 1, 1) := by decide +kernel
theorem own_d_jdk_65_method_136_code_1 : decode jdk_65_method_136_code 1 = .ok (.ifCond .ne 9, 3) := by decide +kernel
theorem own_d_jdk_65_method_136_code_4 : decode jdk_65_method_136_code 4 = .ok (.iload_n 2, 1) := by decide +kernel
theorem own_d_jdk_65_method_136_code_5 : decode jdk_65_method_136_code 5 = .ok (.aload_n 0, 1) := by decide +kernel
theorem own_d_jdk_65_method_136_code_6 : decode jdk_65_method_136_code 6 = .ok (.arraylength, 1) := by decide +kernel
theorem own_d_jdk_65_method_136_code_7 : decode jdk_65_method_136_code 7 = .ok (.if_icmp .eq 10, 3) := by decide +kernel
theorem own_d_jdk_65_method_136_code_10 : decode jdk_65_method_136_code 10 = .ok (.aload_n 0, 1) := by decide +kernel
theorem own_d_jdk_65_method_136_code_11 : decode jdk_65_method_136_code 11 = .ok (.iload_n 1, 1) := by decide +kernel
theorem own_d_jdk_65_method_136_code_12 : decode jdk_65_method_136_code 12 = .ok (.iload_n 2, 1) := by decide +kernel
theorem own_d_jdk_65_method_136_code_13 : decode jdk_65_method_136_code 13 = .ok (.invokestatic 351, 3) := by decide +kernel
theorem own_pd2 : parseMethodDescriptor "([III)[I" = some ⟨[(.array .int), .int, .int], some (.array .int)⟩ := by decide +kernel
theorem own_d_jdk_65_method_136_code_16 : decode jdk_65_method_136_code 16 = .ok (.areturn, 1) := by decide +kernel
theorem own_ef_rm4 (m : MethodId) (x0 : Addr) (x1 : Int32) (x2 : Int32) : entryFrame m #[(.ref x0), (.int x1), (.int x2)] 3 = mkF m 0 #[.val (.ref x0), .val (.int x1), .val (.int x2)] [] := by first | (simp [entryFrame, mkF, argsToLocals, Value.category]; done) | rfl
def own_Q_rm4 (Z : State) (c1 : Addr) (p2 : Int32) (p3 : Int32) (k1 : ClassId) (g : Nat → Int32) (h0 : Heap) (n0 : Nat) (v : Option Value) (h : Heap) (L : List Loc) : Prop := ∃ (r : Addr) (k : ClassId), v = some (.ref r) ∧ Fr n0 L ∧ Keep h0 h [] ∧ h0.size ≤ r ∧ Arf Z h r k .int (p3 - p2) (fun i => own_P g (p2.toNatClampNeg + i))
set_option maxRecDepth 65536 in
set_option maxHeartbeats 40000000 in
theorem rm4 (l : Launch) (Z : State) (a0 : Array Value) (hw : ∀ d ∈ tables_1, d.before a0 Z = true) (ws : List Jvm.Cond) (c1 : Addr) (p2 : Int32) (p3 : Int32) (k1 : ClassId) (g : Nat → Int32) (h0 : Heap) (n0 : Nat) (Z0 : n0 ≤ h0.size) (A_c1 : Arf Z h0 c1 k1 .int 9 (own_P g)) (ok : own_ok p2 p3) :
    OMet l Z (⟨"java/util/Arrays", "copyOfRange", "([III)[I"⟩ : MethodName) jdk_65_method_136_code 3 (some (.array .int)) ws ({ frames := 2, cells := 1, slots := 3, locals := 34 } : Room) #[(.ref c1), (.int p2), (.int p3)] h0 (own_Q_rm4 Z c1 p2 p3 k1 g h0 n0) := by
  refine MetFree.of_bodySF (plainFor_of_name own_pn0) hisR ?_
  intro p e s m args below meth c s₁ Bd hml0 hP hK
  obtain ⟨rfl, hZ, hh⟩ := hP
  have hx := Bd.exec
  have hby := Bd.bytes
  have hml : c.maxLocals = 3 := hml0
  have hown : s.vm.findClass "java/util/Arrays" = some m.cls := findClass_of_methodNamed Bd.named
  have hnm := (name_of_methodNamed Bd.named Bd.method).1
  have hlk : meth.locks = false := Bd.notSynchronized
  have X0 : Stand p l e ({ frames := 2, cells := 1, slots := 3, locals := 34 } : Room) s m #[(.ref c1), (.int p2), (.int p3)] below meth c s₁ [] 0 0 := Stand.of_body Bd
  have e0 : s₁.heap = h0 := by rw [← hh, Bd.state]; rfl
  have N0 := Fr.nil n0
  refine OGo.enter (P := OPost s (own_Q_rm4 Z c1 p2 p3 k1 g h0 n0) 1 3) (own_ef_rm4 m c1 p2 p3) ?_
  show OGo p.tables e below _ (s₁.setTop (mkF m 0 #[.val (.ref c1), .val (.int p2), .val (.int p3)] []))
  refine OGo.st (fun _ k_ => XS.iloadN X0.here hx rfl (hb hby own_d_jdk_65_method_136_code_0) rfl k_) ?_
  show OGo p.tables e below _ (s₁.setTop (mkF m 1 #[.val (.ref c1), .val (.int p2), .val (.int p3)] [(.int p2)]))
  by_cases hc1 : p2 = 0
  · refine OGo.st (fun _ k_ => XS.ifNo X0.here hx rfl (hb hby own_d_jdk_65_method_136_code_1) rfl (XT.i0_ne_f hc1) k_) ?_
    show OGo p.tables e below _ (s₁.setTop (mkF m 4 #[.val (.ref c1), .val (.int p2), .val (.int p3)] []))
    refine OGo.st (fun _ k_ => XS.iloadN X0.here hx rfl (hb hby own_d_jdk_65_method_136_code_4) rfl k_) ?_
    show OGo p.tables e below _ (s₁.setTop (mkF m 5 #[.val (.ref c1), .val (.int p2), .val (.int p3)] [(.int p3)]))
    refine OGo.st (fun _ k_ => XS.aloadN X0.here hx rfl (hb hby own_d_jdk_65_method_136_code_5) rfl rfl k_) ?_
    show OGo p.tables e below _ (s₁.setTop (mkF m 6 #[.val (.ref c1), .val (.int p2), .val (.int p3)] [(.ref c1), (.int p3)]))
    have qz1 := own_alen X0 hx hZ e0 A_c1 (g := (mkF m 6 #[.val (.ref c1), .val (.int p2), .val (.int p3)] [(.ref c1), (.int p3)])) rfl rfl (hb hby own_d_jdk_65_method_136_code_6)
    refine OGo.st qz1 ?_
    show OGo p.tables e below _ (s₁.setTop (mkF m 7 #[.val (.ref c1), .val (.int p2), .val (.int p3)] [(.int (9 : Int32)), (.int p3)]))
    refine OGo.st (fun _ k_ => XS.icmpNo X0.here hx rfl (hb hby own_d_jdk_65_method_136_code_7) rfl (XT.ii_eq_f (ok.n99 hc1)) k_) ?_
    show OGo p.tables e below _ (s₁.setTop (mkF m 10 #[.val (.ref c1), .val (.int p2), .val (.int p3)] []))
    refine OGo.st (fun _ k_ => XS.aloadN X0.here hx rfl (hb hby own_d_jdk_65_method_136_code_10) rfl rfl k_) ?_
    show OGo p.tables e below _ (s₁.setTop (mkF m 11 #[.val (.ref c1), .val (.int p2), .val (.int p3)] [(.ref c1)]))
    refine OGo.st (fun _ k_ => XS.iloadN X0.here hx rfl (hb hby own_d_jdk_65_method_136_code_11) rfl k_) ?_
    show OGo p.tables e below _ (s₁.setTop (mkF m 12 #[.val (.ref c1), .val (.int p2), .val (.int p3)] [(.int p2), (.ref c1)]))
    refine OGo.st (fun _ k_ => XS.iloadN X0.here hx rfl (hb hby own_d_jdk_65_method_136_code_12) rfl k_) ?_
    show OGo p.tables e below _ (s₁.setTop (mkF m 13 #[.val (.ref c1), .val (.int p2), .val (.int p3)] [(.int p3), (.int p2), (.ref c1)]))
    obtain ⟨_, _, ⟨T2, Lz2, kz2, nz2⟩, -, X2, ⟨Lc2, hQ2, lz2, yz2, zz2⟩, st2⟩ := Jvm.LawKit.callS X0 hx (y := (⟨"java/util/Arrays", "copyOfRangeInt", "([III)[I"⟩ : MethodName)) hown (mvT hZ (hw _ (List.mem_of_getElem? (i := 32) rfl))) (mvT hZ (hw _ (List.mem_of_getElem? (i := 33) rfl))) (mvT hZ (hw _ (List.mem_of_getElem? (i := 24) rfl))) (mvT hZ (hw _ (List.mem_of_getElem? (i := 34) rfl))) (by decide) (backOf (W := 0) (rm3 l Z a0 hw [] c1 p2 p3 k1 g h0 n0 (Nat.le_trans Z0 (Keep.refl h0 []).1) A_c1 ok) hZ (hw _ (List.mem_of_getElem? (i := 34) rfl)) (hw _ (List.mem_of_getElem? (i := 24) rfl)) (by decide) (by decide)) (g := (mkF m 13 #[.val (.ref c1), .val (.int p2), .val (.int p3)] [(.int p3), (.int p2), (.ref c1)])) rfl (by rw [hml]; rfl) (argsL := [(.ref c1), (.int p2), (.int p3)]) (rest := []) (lenOf own_pd2 rfl) rfl (by show 2 * 0 + _ ≤ _; exact Nat.le_of_eq rfl) (hb hby own_d_jdk_65_method_136_code_13) (fun _ _ => ⟨rfl, e0, (by decide : 0 + 1 ≤ _), (by decide : 0 + 3 ≤ _)⟩)
    dsimp only [Pt.U, Pt.locs, Pt.cells, Pt.slots] at X2 lz2 yz2 zz2 st2 hQ2
    have X2 := own_reb X2 lz2 yz2 zz2
    have X2 : Stand p l e ({ frames := 2, cells := 1, slots := 3, locals := 34 } : Room) s m #[(.ref c1), (.int p2), (.int p3)] below meth c T2 _ 1 3 := X2
    obtain ⟨rb2, kr2, rfl, Nq2, Kq2, szr2, Ar2⟩ := hQ2
    have N2 := Fr.app N0 Nq2
    have ne_c1_rb2 : c1 ≠ rb2 := Nat.ne_of_lt (Nat.lt_of_lt_of_le A_c1.lt szr2)
    have g_rb2 : n0 ≤ rb2 := Nat.le_trans (Nat.le_trans Z0 (Keep.refl h0 []).1) szr2
    have sz_rb2 : h0.size ≤ rb2 := Nat.le_trans (Keep.refl h0 []).1 szr2
    have Af_3 := A_c1.keep Kq2 nin0
    have K_4 : Keep h0 T2.heap [] := (Keep.refl h0 []).trans Kq2 all0
    refine OGo.st st2 ?_
    show OGo p.tables e below _ (T2.setTop (mkF m 16 #[.val (.ref c1), .val (.int p2), .val (.int p3)] [(.ref rb2)]))
    refine OGo.fin X2 (v := some (.ref rb2)) (fun h => by rw [Bd.returns] at h; cases h) hlk (fun fs hr => X2.areturnOut hx rfl Bd.returns rfl (hb hby own_d_jdk_65_method_136_code_16) hr) ?_ (by decide) (by decide)
    show own_Q_rm4 Z c1 p2 p3 k1 g h0 n0 _ T2.heap _
    skip
    exact ⟨_, _, rfl, N2, K_4, sz_rb2, Ar2⟩
  · refine OGo.st (fun _ k_ => XS.ifYes X0.here hx rfl (pc0 := 1) (pc' := 10) rfl (hb hby own_d_jdk_65_method_136_code_1) rfl (XT.i0_ne_t hc1) (by decide) (by decide) k_) ?_
    show OGo p.tables e below _ (s₁.setTop (mkF m 10 #[.val (.ref c1), .val (.int p2), .val (.int p3)] []))
    refine OGo.st (fun _ k_ => XS.aloadN X0.here hx rfl (hb hby own_d_jdk_65_method_136_code_10) rfl rfl k_) ?_
    show OGo p.tables e below _ (s₁.setTop (mkF m 11 #[.val (.ref c1), .val (.int p2), .val (.int p3)] [(.ref c1)]))
    refine OGo.st (fun _ k_ => XS.iloadN X0.here hx rfl (hb hby own_d_jdk_65_method_136_code_11) rfl k_) ?_
    show OGo p.tables e below _ (s₁.setTop (mkF m 12 #[.val (.ref c1), .val (.int p2), .val (.int p3)] [(.int p2), (.ref c1)]))
    refine OGo.st (fun _ k_ => XS.iloadN X0.here hx rfl (hb hby own_d_jdk_65_method_136_code_12) rfl k_) ?_
    show OGo p.tables e below _ (s₁.setTop (mkF m 13 #[.val (.ref c1), .val (.int p2), .val (.int p3)] [(.int p3), (.int p2), (.ref c1)]))
    obtain ⟨_, _, ⟨T5, Lz5, kz5, nz5⟩, -, X5, ⟨Lc5, hQ5, lz5, yz5, zz5⟩, st5⟩ := Jvm.LawKit.callS X0 hx (y := (⟨"java/util/Arrays", "copyOfRangeInt", "([III)[I"⟩ : MethodName)) hown (mvT hZ (hw _ (List.mem_of_getElem? (i := 32) rfl))) (mvT hZ (hw _ (List.mem_of_getElem? (i := 33) rfl))) (mvT hZ (hw _ (List.mem_of_getElem? (i := 24) rfl))) (mvT hZ (hw _ (List.mem_of_getElem? (i := 34) rfl))) (by decide) (backOf (W := 0) (rm3 l Z a0 hw [] c1 p2 p3 k1 g h0 n0 (Nat.le_trans Z0 (Keep.refl h0 []).1) A_c1 ok) hZ (hw _ (List.mem_of_getElem? (i := 34) rfl)) (hw _ (List.mem_of_getElem? (i := 24) rfl)) (by decide) (by decide)) (g := (mkF m 13 #[.val (.ref c1), .val (.int p2), .val (.int p3)] [(.int p3), (.int p2), (.ref c1)])) rfl (by rw [hml]; rfl) (argsL := [(.ref c1), (.int p2), (.int p3)]) (rest := []) (lenOf own_pd2 rfl) rfl (by show 2 * 0 + _ ≤ _; exact Nat.le_of_eq rfl) (hb hby own_d_jdk_65_method_136_code_13) (fun _ _ => ⟨rfl, e0, (by decide : 0 + 1 ≤ _), (by decide : 0 + 3 ≤ _)⟩)
    dsimp only [Pt.U, Pt.locs, Pt.cells, Pt.slots] at X5 lz5 yz5 zz5 st5 hQ5
    have X5 := own_reb X5 lz5 yz5 zz5
    have X5 : Stand p l e ({ frames := 2, cells := 1, slots := 3, locals := 34 } : Room) s m #[(.ref c1), (.int p2), (.int p3)] below meth c T5 _ 1 3 := X5
    obtain ⟨rb5, kr5, rfl, Nq5, Kq5, szr5, Ar5⟩ := hQ5
    have N5 := Fr.app N0 Nq5
    have ne_c1_rb5 : c1 ≠ rb5 := Nat.ne_of_lt (Nat.lt_of_lt_of_le A_c1.lt szr5)
    have g_rb5 : n0 ≤ rb5 := Nat.le_trans (Nat.le_trans Z0 (Keep.refl h0 []).1) szr5
    have sz_rb5 : h0.size ≤ rb5 := Nat.le_trans (Keep.refl h0 []).1 szr5
    have Af_6 := A_c1.keep Kq5 nin0
    have K_7 : Keep h0 T5.heap [] := (Keep.refl h0 []).trans Kq5 all0
    refine OGo.st st5 ?_
    show OGo p.tables e below _ (T5.setTop (mkF m 16 #[.val (.ref c1), .val (.int p2), .val (.int p3)] [(.ref rb5)]))
    refine OGo.fin X5 (v := some (.ref rb5)) (fun h => by rw [Bd.returns] at h; cases h) hlk (fun fs hr => X5.areturnOut hx rfl Bd.returns rfl (hb hby own_d_jdk_65_method_136_code_16) hr) ?_ (by decide) (by decide)
    show own_Q_rm4 Z c1 p2 p3 k1 g h0 n0 _ T5.heap _
    skip
    exact ⟨_, _, rfl, N5, K_7, sz_rb5, Ar5⟩
theorem own_d_jdk_65_method_59_code_0 : decode jdk_65_method_59_code 0 = .ok (.iload_n 1, 1) := by decide +kernel
theorem own_d_jdk_65_method_59_code_1 : decode jdk_65_method_59_code 1 = .ok (.istore 4, 2) := by decide +kernel
theorem own_d_jdk_65_method_59_code_3 : decode jdk_65_method_59_code 3 = .ok (.iload_n 2, 1) := by decide +kernel
theorem own_d_jdk_65_method_59_code_4 : decode jdk_65_method_59_code 4 = .ok (.iconst 1, 1) := by decide +kernel
theorem own_d_jdk_65_method_59_code_5 : decode jdk_65_method_59_code 5 = .ok (.isub, 1) := by decide +kernel
theorem own_d_jdk_65_method_59_code_6 : decode jdk_65_method_59_code 6 = .ok (.istore 5, 2) := by decide +kernel
theorem own_d_jdk_65_method_59_code_8 : decode jdk_65_method_59_code 8 = .ok (.iload 4, 2) := by decide +kernel
theorem own_d_jdk_65_method_59_code_10 : decode jdk_65_method_59_code 10 = .ok (.iload 5, 2) := by decide +kernel
theorem own_d_jdk_65_method_59_code_12 : decode jdk_65_method_59_code 12 = .ok (.if_icmp .gt 54, 3) := by decide +kernel
theorem own_d_jdk_65_method_59_code_15 : decode jdk_65_method_59_code 15 = .ok (.iload 4, 2) := by decide +kernel
theorem own_d_jdk_65_method_59_code_17 : decode jdk_65_method_59_code 17 = .ok (.iload 5, 2) := by decide +kernel
theorem own_d_jdk_65_method_59_code_19 : decode jdk_65_method_59_code 19 = .ok (.iadd, 1) := by decide +kernel
theorem own_d_jdk_65_method_59_code_20 : decode jdk_65_method_59_code 20 = .ok (.iconst 1, 1) := by decide +kernel
theorem own_d_jdk_65_method_59_code_21 : decode jdk_65_method_59_code 21 = .ok (.iushr, 1) := by decide +kernel
theorem own_d_jdk_65_method_59_code_22 : decode jdk_65_method_59_code 22 = .ok (.istore 6, 2) := by decide +kernel
theorem own_d_jdk_65_method_59_code_24 : decode jdk_65_method_59_code 24 = .ok (.aload_n 0, 1) := by decide +kernel
theorem own_d_jdk_65_method_59_code_25 : decode jdk_65_method_59_code 25 = .ok (.iload 6, 2) := by decide +kernel
theorem own_d_jdk_65_method_59_code_27 : decode jdk_65_method_59_code 27 = .ok (.iaload, 1) := by decide +kernel
theorem own_d_jdk_65_method_59_code_28 : decode jdk_65_method_59_code 28 = .ok (.istore 7, 2) := by decide +kernel
theorem own_d_jdk_65_method_59_code_30 : decode jdk_65_method_59_code 30 = .ok (.iload 7, 2) := by decide +kernel
theorem own_d_jdk_65_method_59_code_32 : decode jdk_65_method_59_code 32 = .ok (.iload_n 3, 1) := by decide +kernel
theorem own_d_jdk_65_method_59_code_33 : decode jdk_65_method_59_code 33 = .ok (.if_icmp .ge 12, 3) := by decide +kernel
theorem own_d_jdk_65_method_59_code_36 : decode jdk_65_method_59_code 36 = .ok (.iload 6, 2) := by decide +kernel
theorem own_d_jdk_65_method_59_code_38 : decode jdk_65_method_59_code 38 = .ok (.iconst 1, 1) := by decide +kernel
theorem own_d_jdk_65_method_59_code_39 : decode jdk_65_method_59_code 39 = .ok (.iadd, 1) := by decide +kernel
theorem own_d_jdk_65_method_59_code_40 : decode jdk_65_method_59_code 40 = .ok (.istore 4, 2) := by decide +kernel
theorem own_d_jdk_65_method_59_code_42 : decode jdk_65_method_59_code 42 = .ok (.goto 21, 3) := by decide +kernel
theorem own_d_jdk_65_method_59_code_63 : decode jdk_65_method_59_code 63 = .ok (.goto (-55), 3) := by decide +kernel
theorem own_d_jdk_65_method_59_code_66 : decode jdk_65_method_59_code 66 = .ok (.iload 4, 2) := by decide +kernel
theorem own_d_jdk_65_method_59_code_68 : decode jdk_65_method_59_code 68 = .ok (.iconst 1, 1) := by decide +kernel
theorem own_d_jdk_65_method_59_code_69 : decode jdk_65_method_59_code 69 = .ok (.iadd, 1) := by decide +kernel
theorem own_d_jdk_65_method_59_code_70 : decode jdk_65_method_59_code 70 = .ok (.ineg, 1) := by decide +kernel
theorem own_d_jdk_65_method_59_code_71 : decode jdk_65_method_59_code 71 = .ok (.ireturn, 1) := by decide +kernel
theorem own_d_jdk_65_method_59_code_45 : decode jdk_65_method_59_code 45 = .ok (.iload 7, 2) := by decide +kernel
theorem own_d_jdk_65_method_59_code_47 : decode jdk_65_method_59_code 47 = .ok (.iload_n 3, 1) := by decide +kernel
theorem own_d_jdk_65_method_59_code_48 : decode jdk_65_method_59_code 48 = .ok (.if_icmp .le 12, 3) := by decide +kernel
theorem own_d_jdk_65_method_59_code_51 : decode jdk_65_method_59_code 51 = .ok (.iload 6, 2) := by decide +kernel
theorem own_d_jdk_65_method_59_code_53 : decode jdk_65_method_59_code 53 = .ok (.iconst 1, 1) := by decide +kernel
theorem own_d_jdk_65_method_59_code_54 : decode jdk_65_method_59_code 54 = .ok (.isub, 1) := by decide +kernel
theorem own_d_jdk_65_method_59_code_55 : decode jdk_65_method_59_code 55 = .ok (.istore 5, 2) := by decide +kernel
theorem own_d_jdk_65_method_59_code_57 : decode jdk_65_method_59_code 57 = .ok (.goto 6, 3) := by decide +kernel
theorem own_d_jdk_65_method_59_code_60 : decode jdk_65_method_59_code 60 = .ok (.iload 6, 2) := by decide +kernel
theorem own_d_jdk_65_method_59_code_62 : decode jdk_65_method_59_code 62 = .ok (.ireturn, 1) := by decide +kernel
theorem own_ef_rm5 (m : MethodId) (x0 : Addr) (x1 : Int32) (x2 : Int32) (x3 : Int32) : entryFrame m #[(.ref x0), (.int x1), (.int x2), (.int x3)] 8 = mkF m 0 #[.val (.ref x0), .val (.int x1), .val (.int x2), .val (.int x3), .unset, .unset, .unset, .unset] [] := by first | (simp [entryFrame, mkF, argsToLocals, Value.category]; done) | rfl
def own_Q_rm5 (Z : State) (c1 : Addr) (q : Int32) (k1 : ClassId) (d0 d1 d2 : Int32) (r : Int32) (h0 : Heap) (n0 : Nat) (v : Option Value) (h : Heap) (L : List Loc) : Prop := v = some (.int r) ∧ Fr n0 L ∧ h = h0
set_option maxRecDepth 65536 in
set_option maxHeartbeats 40000000 in
theorem rm5 (l : Launch) (Z : State) (a0 : Array Value) (hw : ∀ d ∈ tables_1, d.before a0 Z = true) (ws : List Jvm.Cond) (c1 : Addr) (q : Int32) (k1 : ClassId) (d0 d1 d2 : Int32) (r : Int32) (h0 : Heap) (n0 : Nat) (Z0 : n0 ≤ h0.size) (A_c1 : Arf Z h0 c1 k1 .int 3 (own_P (own_3 d0 d1 d2))) (hr : own_bs d0 d1 d2 q = r) :
    OMet l Z (⟨"java/util/Arrays", "binarySearch0", "([IIII)I"⟩ : MethodName) jdk_65_method_59_code 8 (some .int) ws ({ frames := 0, cells := 0, slots := 0, locals := 0 } : Room) #[(.ref c1), (.int (0 : Int32)), (.int (3 : Int32)), (.int q)] h0 (own_Q_rm5 Z c1 q k1 d0 d1 d2 r h0 n0) := by
  refine MetFree.of_bodySF (plainFor_of_name own_pn0) hisR ?_
  intro p e s m args below meth c s₁ Bd hml0 hP hK
  obtain ⟨rfl, hZ, hh⟩ := hP
  have hx := Bd.exec
  have hby := Bd.bytes
  have hml : c.maxLocals = 8 := hml0
  have hown : s.vm.findClass "java/util/Arrays" = some m.cls := findClass_of_methodNamed Bd.named
  have hnm := (name_of_methodNamed Bd.named Bd.method).1
  have hlk : meth.locks = false := Bd.notSynchronized
  have X0 : Stand p l e ({ frames := 0, cells := 0, slots := 0, locals := 0 } : Room) s m #[(.ref c1), (.int (0 : Int32)), (.int (3 : Int32)), (.int q)] below meth c s₁ [] 0 0 := Stand.of_body Bd
  have e0 : s₁.heap = h0 := by rw [← hh, Bd.state]; rfl
  have N0 := Fr.nil n0
  refine OGo.enter (P := OPost s (own_Q_rm5 Z c1 q k1 d0 d1 d2 r h0 n0) 0 0) (own_ef_rm5 m c1 (0 : Int32) (3 : Int32) q) ?_
  show OGo p.tables e below _ (s₁.setTop (mkF m 0 #[.val (.ref c1), .val (.int (0 : Int32)), .val (.int (3 : Int32)), .val (.int q), .unset, .unset, .unset, .unset] []))
  refine OGo.st (fun _ k_ => XS.iloadN X0.here hx rfl (hb hby own_d_jdk_65_method_59_code_0) rfl k_) ?_
  show OGo p.tables e below _ (s₁.setTop (mkF m 1 #[.val (.ref c1), .val (.int (0 : Int32)), .val (.int (3 : Int32)), .val (.int q), .unset, .unset, .unset, .unset] [(.int (0 : Int32))]))
  refine OGo.st (fun _ k_ => XS.istore X0.here hx rfl (hb hby own_d_jdk_65_method_59_code_1) rfl (l' := #[.val (.ref c1), .val (.int (0 : Int32)), .val (.int (3 : Int32)), .val (.int q), .val (.int (0 : Int32)), .unset, .unset, .unset]) rfl k_) ?_
  show OGo p.tables e below _ (s₁.setTop (mkF m 3 #[.val (.ref c1), .val (.int (0 : Int32)), .val (.int (3 : Int32)), .val (.int q), .val (.int (0 : Int32)), .unset, .unset, .unset] []))
  refine OGo.st (fun _ k_ => XS.iloadN X0.here hx rfl (hb hby own_d_jdk_65_method_59_code_3) rfl k_) ?_
  show OGo p.tables e below _ (s₁.setTop (mkF m 4 #[.val (.ref c1), .val (.int (0 : Int32)), .val (.int (3 : Int32)), .val (.int q), .val (.int (0 : Int32)), .unset, .unset, .unset] [(.int (3 : Int32))]))
  refine OGo.st (fun _ k_ => XS.iconst X0.here hx rfl (hb hby own_d_jdk_65_method_59_code_4) k_) ?_
  show OGo p.tables e below _ (s₁.setTop (mkF m 5 #[.val (.ref c1), .val (.int (0 : Int32)), .val (.int (3 : Int32)), .val (.int q), .val (.int (0 : Int32)), .unset, .unset, .unset] [(.int (1 : Int32)), (.int (3 : Int32))]))
  refine OGo.st (fun _ k_ => XS.isub X0.here hx rfl (hb hby own_d_jdk_65_method_59_code_5) rfl k_) ?_
  show OGo p.tables e below _ (s₁.setTop (mkF m 6 #[.val (.ref c1), .val (.int (0 : Int32)), .val (.int (3 : Int32)), .val (.int q), .val (.int (0 : Int32)), .unset, .unset, .unset] [(.int (2 : Int32))]))
  refine OGo.st (fun _ k_ => XS.istore X0.here hx rfl (hb hby own_d_jdk_65_method_59_code_6) rfl (l' := #[.val (.ref c1), .val (.int (0 : Int32)), .val (.int (3 : Int32)), .val (.int q), .val (.int (0 : Int32)), .val (.int (2 : Int32)), .unset, .unset]) rfl k_) ?_
  show OGo p.tables e below _ (s₁.setTop (mkF m 8 #[.val (.ref c1), .val (.int (0 : Int32)), .val (.int (3 : Int32)), .val (.int q), .val (.int (0 : Int32)), .val (.int (2 : Int32)), .unset, .unset] []))
  refine OGo.st (fun _ k_ => XS.iload X0.here hx rfl (hb hby own_d_jdk_65_method_59_code_8) rfl k_) ?_
  show OGo p.tables e below _ (s₁.setTop (mkF m 10 #[.val (.ref c1), .val (.int (0 : Int32)), .val (.int (3 : Int32)), .val (.int q), .val (.int (0 : Int32)), .val (.int (2 : Int32)), .unset, .unset] [(.int (0 : Int32))]))
  refine OGo.st (fun _ k_ => XS.iload X0.here hx rfl (hb hby own_d_jdk_65_method_59_code_10) rfl k_) ?_
  show OGo p.tables e below _ (s₁.setTop (mkF m 12 #[.val (.ref c1), .val (.int (0 : Int32)), .val (.int (3 : Int32)), .val (.int q), .val (.int (0 : Int32)), .val (.int (2 : Int32)), .unset, .unset] [(.int (2 : Int32)), (.int (0 : Int32))]))
  refine OGo.st (fun _ k_ => XS.icmpNo X0.here hx rfl (hb hby own_d_jdk_65_method_59_code_12) rfl (XT.ii_gt_f (by decide)) k_) ?_
  show OGo p.tables e below _ (s₁.setTop (mkF m 15 #[.val (.ref c1), .val (.int (0 : Int32)), .val (.int (3 : Int32)), .val (.int q), .val (.int (0 : Int32)), .val (.int (2 : Int32)), .unset, .unset] []))
  refine OGo.st (fun _ k_ => XS.iload X0.here hx rfl (hb hby own_d_jdk_65_method_59_code_15) rfl k_) ?_
  show OGo p.tables e below _ (s₁.setTop (mkF m 17 #[.val (.ref c1), .val (.int (0 : Int32)), .val (.int (3 : Int32)), .val (.int q), .val (.int (0 : Int32)), .val (.int (2 : Int32)), .unset, .unset] [(.int (0 : Int32))]))
  refine OGo.st (fun _ k_ => XS.iload X0.here hx rfl (hb hby own_d_jdk_65_method_59_code_17) rfl k_) ?_
  show OGo p.tables e below _ (s₁.setTop (mkF m 19 #[.val (.ref c1), .val (.int (0 : Int32)), .val (.int (3 : Int32)), .val (.int q), .val (.int (0 : Int32)), .val (.int (2 : Int32)), .unset, .unset] [(.int (2 : Int32)), (.int (0 : Int32))]))
  refine OGo.st (fun _ k_ => XS.iadd X0.here hx rfl (hb hby own_d_jdk_65_method_59_code_19) rfl k_) ?_
  show OGo p.tables e below _ (s₁.setTop (mkF m 20 #[.val (.ref c1), .val (.int (0 : Int32)), .val (.int (3 : Int32)), .val (.int q), .val (.int (0 : Int32)), .val (.int (2 : Int32)), .unset, .unset] [(.int (2 : Int32))]))
  refine OGo.st (fun _ k_ => XS.iconst X0.here hx rfl (hb hby own_d_jdk_65_method_59_code_20) k_) ?_
  show OGo p.tables e below _ (s₁.setTop (mkF m 21 #[.val (.ref c1), .val (.int (0 : Int32)), .val (.int (3 : Int32)), .val (.int q), .val (.int (0 : Int32)), .val (.int (2 : Int32)), .unset, .unset] [(.int (1 : Int32)), (.int (2 : Int32))]))
  refine OGo.st (fun _ k_ => XS.iushr X0.here hx rfl (hb hby own_d_jdk_65_method_59_code_21) rfl k_) ?_
  show OGo p.tables e below _ (s₁.setTop (mkF m 22 #[.val (.ref c1), .val (.int (0 : Int32)), .val (.int (3 : Int32)), .val (.int q), .val (.int (0 : Int32)), .val (.int (2 : Int32)), .unset, .unset] [(.int (1 : Int32))]))
  refine OGo.st (fun _ k_ => XS.istore X0.here hx rfl (hb hby own_d_jdk_65_method_59_code_22) rfl (l' := #[.val (.ref c1), .val (.int (0 : Int32)), .val (.int (3 : Int32)), .val (.int q), .val (.int (0 : Int32)), .val (.int (2 : Int32)), .val (.int (1 : Int32)), .unset]) rfl k_) ?_
  show OGo p.tables e below _ (s₁.setTop (mkF m 24 #[.val (.ref c1), .val (.int (0 : Int32)), .val (.int (3 : Int32)), .val (.int q), .val (.int (0 : Int32)), .val (.int (2 : Int32)), .val (.int (1 : Int32)), .unset] []))
  refine OGo.st (fun _ k_ => XS.aloadN X0.here hx rfl (hb hby own_d_jdk_65_method_59_code_24) rfl rfl k_) ?_
  show OGo p.tables e below _ (s₁.setTop (mkF m 25 #[.val (.ref c1), .val (.int (0 : Int32)), .val (.int (3 : Int32)), .val (.int q), .val (.int (0 : Int32)), .val (.int (2 : Int32)), .val (.int (1 : Int32)), .unset] [(.ref c1)]))
  refine OGo.st (fun _ k_ => XS.iload X0.here hx rfl (hb hby own_d_jdk_65_method_59_code_25) rfl k_) ?_
  show OGo p.tables e below _ (s₁.setTop (mkF m 27 #[.val (.ref c1), .val (.int (0 : Int32)), .val (.int (3 : Int32)), .val (.int q), .val (.int (0 : Int32)), .val (.int (2 : Int32)), .val (.int (1 : Int32)), .unset] [(.int (1 : Int32)), (.ref c1)]))
  have qz1 := own_ldI X0 hx hZ e0 A_c1 (j := (1 : Int32)) (v := d1) (by decide) rfl (g := (mkF m 27 #[.val (.ref c1), .val (.int (0 : Int32)), .val (.int (3 : Int32)), .val (.int q), .val (.int (0 : Int32)), .val (.int (2 : Int32)), .val (.int (1 : Int32)), .unset] [(.int (1 : Int32)), (.ref c1)])) rfl rfl (hb hby own_d_jdk_65_method_59_code_27)
  refine OGo.st qz1 ?_
  show OGo p.tables e below _ (s₁.setTop (mkF m 28 #[.val (.ref c1), .val (.int (0 : Int32)), .val (.int (3 : Int32)), .val (.int q), .val (.int (0 : Int32)), .val (.int (2 : Int32)), .val (.int (1 : Int32)), .unset] [(.int d1)]))
  refine OGo.st (fun _ k_ => XS.istore X0.here hx rfl (hb hby own_d_jdk_65_method_59_code_28) rfl (l' := #[.val (.ref c1), .val (.int (0 : Int32)), .val (.int (3 : Int32)), .val (.int q), .val (.int (0 : Int32)), .val (.int (2 : Int32)), .val (.int (1 : Int32)), .val (.int d1)]) rfl k_) ?_
  show OGo p.tables e below _ (s₁.setTop (mkF m 30 #[.val (.ref c1), .val (.int (0 : Int32)), .val (.int (3 : Int32)), .val (.int q), .val (.int (0 : Int32)), .val (.int (2 : Int32)), .val (.int (1 : Int32)), .val (.int d1)] []))
  refine OGo.st (fun _ k_ => XS.iload X0.here hx rfl (hb hby own_d_jdk_65_method_59_code_30) rfl k_) ?_
  show OGo p.tables e below _ (s₁.setTop (mkF m 32 #[.val (.ref c1), .val (.int (0 : Int32)), .val (.int (3 : Int32)), .val (.int q), .val (.int (0 : Int32)), .val (.int (2 : Int32)), .val (.int (1 : Int32)), .val (.int d1)] [(.int d1)]))
  refine OGo.st (fun _ k_ => XS.iloadN X0.here hx rfl (hb hby own_d_jdk_65_method_59_code_32) rfl k_) ?_
  show OGo p.tables e below _ (s₁.setTop (mkF m 33 #[.val (.ref c1), .val (.int (0 : Int32)), .val (.int (3 : Int32)), .val (.int q), .val (.int (0 : Int32)), .val (.int (2 : Int32)), .val (.int (1 : Int32)), .val (.int d1)] [(.int q), (.int d1)]))
  by_cases hc33 : d1 < q
  · refine OGo.st (fun _ k_ => XS.icmpNo X0.here hx rfl (hb hby own_d_jdk_65_method_59_code_33) rfl (XT.ii_ge_f hc33) k_) ?_
    show OGo p.tables e below _ (s₁.setTop (mkF m 36 #[.val (.ref c1), .val (.int (0 : Int32)), .val (.int (3 : Int32)), .val (.int q), .val (.int (0 : Int32)), .val (.int (2 : Int32)), .val (.int (1 : Int32)), .val (.int d1)] []))
    refine OGo.st (fun _ k_ => XS.iload X0.here hx rfl (hb hby own_d_jdk_65_method_59_code_36) rfl k_) ?_
    show OGo p.tables e below _ (s₁.setTop (mkF m 38 #[.val (.ref c1), .val (.int (0 : Int32)), .val (.int (3 : Int32)), .val (.int q), .val (.int (0 : Int32)), .val (.int (2 : Int32)), .val (.int (1 : Int32)), .val (.int d1)] [(.int (1 : Int32))]))
    refine OGo.st (fun _ k_ => XS.iconst X0.here hx rfl (hb hby own_d_jdk_65_method_59_code_38) k_) ?_
    show OGo p.tables e below _ (s₁.setTop (mkF m 39 #[.val (.ref c1), .val (.int (0 : Int32)), .val (.int (3 : Int32)), .val (.int q), .val (.int (0 : Int32)), .val (.int (2 : Int32)), .val (.int (1 : Int32)), .val (.int d1)] [(.int (1 : Int32)), (.int (1 : Int32))]))
    refine OGo.st (fun _ k_ => XS.iadd X0.here hx rfl (hb hby own_d_jdk_65_method_59_code_39) rfl k_) ?_
    show OGo p.tables e below _ (s₁.setTop (mkF m 40 #[.val (.ref c1), .val (.int (0 : Int32)), .val (.int (3 : Int32)), .val (.int q), .val (.int (0 : Int32)), .val (.int (2 : Int32)), .val (.int (1 : Int32)), .val (.int d1)] [(.int (2 : Int32))]))
    refine OGo.st (fun _ k_ => XS.istore X0.here hx rfl (hb hby own_d_jdk_65_method_59_code_40) rfl (l' := #[.val (.ref c1), .val (.int (0 : Int32)), .val (.int (3 : Int32)), .val (.int q), .val (.int (2 : Int32)), .val (.int (2 : Int32)), .val (.int (1 : Int32)), .val (.int d1)]) rfl k_) ?_
    show OGo p.tables e below _ (s₁.setTop (mkF m 42 #[.val (.ref c1), .val (.int (0 : Int32)), .val (.int (3 : Int32)), .val (.int q), .val (.int (2 : Int32)), .val (.int (2 : Int32)), .val (.int (1 : Int32)), .val (.int d1)] []))
    refine OGo.st (fun _ k_ => XS.goto X0.here hx rfl (pc0 := 42) (pc' := 63) rfl (hb hby own_d_jdk_65_method_59_code_42) (by decide) (by decide) k_) ?_
    show OGo p.tables e below _ (s₁.setTop (mkF m 63 #[.val (.ref c1), .val (.int (0 : Int32)), .val (.int (3 : Int32)), .val (.int q), .val (.int (2 : Int32)), .val (.int (2 : Int32)), .val (.int (1 : Int32)), .val (.int d1)] []))
    refine OGo.st (fun _ k_ => XS.goto X0.here hx rfl (pc0 := 63) (pc' := 8) rfl (hb hby own_d_jdk_65_method_59_code_63) (by decide) (by decide) k_) ?_
    show OGo p.tables e below _ (s₁.setTop (mkF m 8 #[.val (.ref c1), .val (.int (0 : Int32)), .val (.int (3 : Int32)), .val (.int q), .val (.int (2 : Int32)), .val (.int (2 : Int32)), .val (.int (1 : Int32)), .val (.int d1)] []))
    refine OGo.st (fun _ k_ => XS.iload X0.here hx rfl (hb hby own_d_jdk_65_method_59_code_8) rfl k_) ?_
    show OGo p.tables e below _ (s₁.setTop (mkF m 10 #[.val (.ref c1), .val (.int (0 : Int32)), .val (.int (3 : Int32)), .val (.int q), .val (.int (2 : Int32)), .val (.int (2 : Int32)), .val (.int (1 : Int32)), .val (.int d1)] [(.int (2 : Int32))]))
    refine OGo.st (fun _ k_ => XS.iload X0.here hx rfl (hb hby own_d_jdk_65_method_59_code_10) rfl k_) ?_
    show OGo p.tables e below _ (s₁.setTop (mkF m 12 #[.val (.ref c1), .val (.int (0 : Int32)), .val (.int (3 : Int32)), .val (.int q), .val (.int (2 : Int32)), .val (.int (2 : Int32)), .val (.int (1 : Int32)), .val (.int d1)] [(.int (2 : Int32)), (.int (2 : Int32))]))
    refine OGo.st (fun _ k_ => XS.icmpNo X0.here hx rfl (hb hby own_d_jdk_65_method_59_code_12) rfl (XT.ii_gt_f (by decide)) k_) ?_
    show OGo p.tables e below _ (s₁.setTop (mkF m 15 #[.val (.ref c1), .val (.int (0 : Int32)), .val (.int (3 : Int32)), .val (.int q), .val (.int (2 : Int32)), .val (.int (2 : Int32)), .val (.int (1 : Int32)), .val (.int d1)] []))
    refine OGo.st (fun _ k_ => XS.iload X0.here hx rfl (hb hby own_d_jdk_65_method_59_code_15) rfl k_) ?_
    show OGo p.tables e below _ (s₁.setTop (mkF m 17 #[.val (.ref c1), .val (.int (0 : Int32)), .val (.int (3 : Int32)), .val (.int q), .val (.int (2 : Int32)), .val (.int (2 : Int32)), .val (.int (1 : Int32)), .val (.int d1)] [(.int (2 : Int32))]))
    refine OGo.st (fun _ k_ => XS.iload X0.here hx rfl (hb hby own_d_jdk_65_method_59_code_17) rfl k_) ?_
    show OGo p.tables e below _ (s₁.setTop (mkF m 19 #[.val (.ref c1), .val (.int (0 : Int32)), .val (.int (3 : Int32)), .val (.int q), .val (.int (2 : Int32)), .val (.int (2 : Int32)), .val (.int (1 : Int32)), .val (.int d1)] [(.int (2 : Int32)), (.int (2 : Int32))]))
    refine OGo.st (fun _ k_ => XS.iadd X0.here hx rfl (hb hby own_d_jdk_65_method_59_code_19) rfl k_) ?_
    show OGo p.tables e below _ (s₁.setTop (mkF m 20 #[.val (.ref c1), .val (.int (0 : Int32)), .val (.int (3 : Int32)), .val (.int q), .val (.int (2 : Int32)), .val (.int (2 : Int32)), .val (.int (1 : Int32)), .val (.int d1)] [(.int (4 : Int32))]))
    refine OGo.st (fun _ k_ => XS.iconst X0.here hx rfl (hb hby own_d_jdk_65_method_59_code_20) k_) ?_
    show OGo p.tables e below _ (s₁.setTop (mkF m 21 #[.val (.ref c1), .val (.int (0 : Int32)), .val (.int (3 : Int32)), .val (.int q), .val (.int (2 : Int32)), .val (.int (2 : Int32)), .val (.int (1 : Int32)), .val (.int d1)] [(.int (1 : Int32)), (.int (4 : Int32))]))
    refine OGo.st (fun _ k_ => XS.iushr X0.here hx rfl (hb hby own_d_jdk_65_method_59_code_21) rfl k_) ?_
    show OGo p.tables e below _ (s₁.setTop (mkF m 22 #[.val (.ref c1), .val (.int (0 : Int32)), .val (.int (3 : Int32)), .val (.int q), .val (.int (2 : Int32)), .val (.int (2 : Int32)), .val (.int (1 : Int32)), .val (.int d1)] [(.int (2 : Int32))]))
    refine OGo.st (fun _ k_ => XS.istore X0.here hx rfl (hb hby own_d_jdk_65_method_59_code_22) rfl (l' := #[.val (.ref c1), .val (.int (0 : Int32)), .val (.int (3 : Int32)), .val (.int q), .val (.int (2 : Int32)), .val (.int (2 : Int32)), .val (.int (2 : Int32)), .val (.int d1)]) rfl k_) ?_
    show OGo p.tables e below _ (s₁.setTop (mkF m 24 #[.val (.ref c1), .val (.int (0 : Int32)), .val (.int (3 : Int32)), .val (.int q), .val (.int (2 : Int32)), .val (.int (2 : Int32)), .val (.int (2 : Int32)), .val (.int d1)] []))
    refine OGo.st (fun _ k_ => XS.aloadN X0.here hx rfl (hb hby own_d_jdk_65_method_59_code_24) rfl rfl k_) ?_
    show OGo p.tables e below _ (s₁.setTop (mkF m 25 #[.val (.ref c1), .val (.int (0 : Int32)), .val (.int (3 : Int32)), .val (.int q), .val (.int (2 : Int32)), .val (.int (2 : Int32)), .val (.int (2 : Int32)), .val (.int d1)] [(.ref c1)]))
    refine OGo.st (fun _ k_ => XS.iload X0.here hx rfl (hb hby own_d_jdk_65_method_59_code_25) rfl k_) ?_
    show OGo p.tables e below _ (s₁.setTop (mkF m 27 #[.val (.ref c1), .val (.int (0 : Int32)), .val (.int (3 : Int32)), .val (.int q), .val (.int (2 : Int32)), .val (.int (2 : Int32)), .val (.int (2 : Int32)), .val (.int d1)] [(.int (2 : Int32)), (.ref c1)]))
    have qz2 := own_ldI X0 hx hZ e0 A_c1 (j := (2 : Int32)) (v := d2) (by decide) rfl (g := (mkF m 27 #[.val (.ref c1), .val (.int (0 : Int32)), .val (.int (3 : Int32)), .val (.int q), .val (.int (2 : Int32)), .val (.int (2 : Int32)), .val (.int (2 : Int32)), .val (.int d1)] [(.int (2 : Int32)), (.ref c1)])) rfl rfl (hb hby own_d_jdk_65_method_59_code_27)
    refine OGo.st qz2 ?_
    show OGo p.tables e below _ (s₁.setTop (mkF m 28 #[.val (.ref c1), .val (.int (0 : Int32)), .val (.int (3 : Int32)), .val (.int q), .val (.int (2 : Int32)), .val (.int (2 : Int32)), .val (.int (2 : Int32)), .val (.int d1)] [(.int d2)]))
    refine OGo.st (fun _ k_ => XS.istore X0.here hx rfl (hb hby own_d_jdk_65_method_59_code_28) rfl (l' := #[.val (.ref c1), .val (.int (0 : Int32)), .val (.int (3 : Int32)), .val (.int q), .val (.int (2 : Int32)), .val (.int (2 : Int32)), .val (.int (2 : Int32)), .val (.int d2)]) rfl k_) ?_
    show OGo p.tables e below _ (s₁.setTop (mkF m 30 #[.val (.ref c1), .val (.int (0 : Int32)), .val (.int (3 : Int32)), .val (.int q), .val (.int (2 : Int32)), .val (.int (2 : Int32)), .val (.int (2 : Int32)), .val (.int d2)] []))
    refine OGo.st (fun _ k_ => XS.iload X0.here hx rfl (hb hby own_d_jdk_65_method_59_code_30) rfl k_) ?_
    show OGo p.tables e below _ (s₁.setTop (mkF m 32 #[.val (.ref c1), .val (.int (0 : Int32)), .val (.int (3 : Int32)), .val (.int q), .val (.int (2 : Int32)), .val (.int (2 : Int32)), .val (.int (2 : Int32)), .val (.int d2)] [(.int d2)]))
    refine OGo.st (fun _ k_ => XS.iloadN X0.here hx rfl (hb hby own_d_jdk_65_method_59_code_32) rfl k_) ?_
    show OGo p.tables e below _ (s₁.setTop (mkF m 33 #[.val (.ref c1), .val (.int (0 : Int32)), .val (.int (3 : Int32)), .val (.int q), .val (.int (2 : Int32)), .val (.int (2 : Int32)), .val (.int (2 : Int32)), .val (.int d2)] [(.int q), (.int d2)]))
    by_cases hc33_3 : d2 < q
    · refine OGo.st (fun _ k_ => XS.icmpNo X0.here hx rfl (hb hby own_d_jdk_65_method_59_code_33) rfl (XT.ii_ge_f hc33_3) k_) ?_
      show OGo p.tables e below _ (s₁.setTop (mkF m 36 #[.val (.ref c1), .val (.int (0 : Int32)), .val (.int (3 : Int32)), .val (.int q), .val (.int (2 : Int32)), .val (.int (2 : Int32)), .val (.int (2 : Int32)), .val (.int d2)] []))
      refine OGo.st (fun _ k_ => XS.iload X0.here hx rfl (hb hby own_d_jdk_65_method_59_code_36) rfl k_) ?_
      show OGo p.tables e below _ (s₁.setTop (mkF m 38 #[.val (.ref c1), .val (.int (0 : Int32)), .val (.int (3 : Int32)), .val (.int q), .val (.int (2 : Int32)), .val (.int (2 : Int32)), .val (.int (2 : Int32)), .val (.int d2)] [(.int (2 : Int32))]))
      refine OGo.st (fun _ k_ => XS.iconst X0.here hx rfl (hb hby own_d_jdk_65_method_59_code_38) k_) ?_
      show OGo p.tables e below _ (s₁.setTop (mkF m 39 #[.val (.ref c1), .val (.int (0 : Int32)), .val (.int (3 : Int32)), .val (.int q), .val (.int (2 : Int32)), .val (.int (2 : Int32)), .val (.int (2 : Int32)), .val (.int d2)] [(.int (1 : Int32)), (.int (2 : Int32))]))
      refine OGo.st (fun _ k_ => XS.iadd X0.here hx rfl (hb hby own_d_jdk_65_method_59_code_39) rfl k_) ?_
      show OGo p.tables e below _ (s₁.setTop (mkF m 40 #[.val (.ref c1), .val (.int (0 : Int32)), .val (.int (3 : Int32)), .val (.int q), .val (.int (2 : Int32)), .val (.int (2 : Int32)), .val (.int (2 : Int32)), .val (.int d2)] [(.int (3 : Int32))]))
      refine OGo.st (fun _ k_ => XS.istore X0.here hx rfl (hb hby own_d_jdk_65_method_59_code_40) rfl (l' := #[.val (.ref c1), .val (.int (0 : Int32)), .val (.int (3 : Int32)), .val (.int q), .val (.int (3 : Int32)), .val (.int (2 : Int32)), .val (.int (2 : Int32)), .val (.int d2)]) rfl k_) ?_
      show OGo p.tables e below _ (s₁.setTop (mkF m 42 #[.val (.ref c1), .val (.int (0 : Int32)), .val (.int (3 : Int32)), .val (.int q), .val (.int (3 : Int32)), .val (.int (2 : Int32)), .val (.int (2 : Int32)), .val (.int d2)] []))
      refine OGo.st (fun _ k_ => XS.goto X0.here hx rfl (pc0 := 42) (pc' := 63) rfl (hb hby own_d_jdk_65_method_59_code_42) (by decide) (by decide) k_) ?_
      show OGo p.tables e below _ (s₁.setTop (mkF m 63 #[.val (.ref c1), .val (.int (0 : Int32)), .val (.int (3 : Int32)), .val (.int q), .val (.int (3 : Int32)), .val (.int (2 : Int32)), .val (.int (2 : Int32)), .val (.int d2)] []))
      refine OGo.st (fun _ k_ => XS.goto X0.here hx rfl (pc0 := 63) (pc' := 8) rfl (hb hby own_d_jdk_65_method_59_code_63) (by decide) (by decide) k_) ?_
      show OGo p.tables e below _ (s₁.setTop (mkF m 8 #[.val (.ref c1), .val (.int (0 : Int32)), .val (.int (3 : Int32)), .val (.int q), .val (.int (3 : Int32)), .val (.int (2 : Int32)), .val (.int (2 : Int32)), .val (.int d2)] []))
      refine OGo.st (fun _ k_ => XS.iload X0.here hx rfl (hb hby own_d_jdk_65_method_59_code_8) rfl k_) ?_
      show OGo p.tables e below _ (s₁.setTop (mkF m 10 #[.val (.ref c1), .val (.int (0 : Int32)), .val (.int (3 : Int32)), .val (.int q), .val (.int (3 : Int32)), .val (.int (2 : Int32)), .val (.int (2 : Int32)), .val (.int d2)] [(.int (3 : Int32))]))
      refine OGo.st (fun _ k_ => XS.iload X0.here hx rfl (hb hby own_d_jdk_65_method_59_code_10) rfl k_) ?_
      show OGo p.tables e below _ (s₁.setTop (mkF m 12 #[.val (.ref c1), .val (.int (0 : Int32)), .val (.int (3 : Int32)), .val (.int q), .val (.int (3 : Int32)), .val (.int (2 : Int32)), .val (.int (2 : Int32)), .val (.int d2)] [(.int (2 : Int32)), (.int (3 : Int32))]))
      refine OGo.st (fun _ k_ => XS.icmpYes X0.here hx rfl (pc0 := 12) (pc' := 66) rfl (hb hby own_d_jdk_65_method_59_code_12) rfl (XT.ii_gt_t (by decide)) (by decide) (by decide) k_) ?_
      show OGo p.tables e below _ (s₁.setTop (mkF m 66 #[.val (.ref c1), .val (.int (0 : Int32)), .val (.int (3 : Int32)), .val (.int q), .val (.int (3 : Int32)), .val (.int (2 : Int32)), .val (.int (2 : Int32)), .val (.int d2)] []))
      refine OGo.st (fun _ k_ => XS.iload X0.here hx rfl (hb hby own_d_jdk_65_method_59_code_66) rfl k_) ?_
      show OGo p.tables e below _ (s₁.setTop (mkF m 68 #[.val (.ref c1), .val (.int (0 : Int32)), .val (.int (3 : Int32)), .val (.int q), .val (.int (3 : Int32)), .val (.int (2 : Int32)), .val (.int (2 : Int32)), .val (.int d2)] [(.int (3 : Int32))]))
      refine OGo.st (fun _ k_ => XS.iconst X0.here hx rfl (hb hby own_d_jdk_65_method_59_code_68) k_) ?_
      show OGo p.tables e below _ (s₁.setTop (mkF m 69 #[.val (.ref c1), .val (.int (0 : Int32)), .val (.int (3 : Int32)), .val (.int q), .val (.int (3 : Int32)), .val (.int (2 : Int32)), .val (.int (2 : Int32)), .val (.int d2)] [(.int (1 : Int32)), (.int (3 : Int32))]))
      refine OGo.st (fun _ k_ => XS.iadd X0.here hx rfl (hb hby own_d_jdk_65_method_59_code_69) rfl k_) ?_
      show OGo p.tables e below _ (s₁.setTop (mkF m 70 #[.val (.ref c1), .val (.int (0 : Int32)), .val (.int (3 : Int32)), .val (.int q), .val (.int (3 : Int32)), .val (.int (2 : Int32)), .val (.int (2 : Int32)), .val (.int d2)] [(.int (4 : Int32))]))
      refine OGo.st (fun _ k_ => XS.ineg X0.here hx rfl (hb hby own_d_jdk_65_method_59_code_70) rfl k_) ?_
      show OGo p.tables e below _ (s₁.setTop (mkF m 71 #[.val (.ref c1), .val (.int (0 : Int32)), .val (.int (3 : Int32)), .val (.int q), .val (.int (3 : Int32)), .val (.int (2 : Int32)), .val (.int (2 : Int32)), .val (.int d2)] [(.int (-4 : Int32))]))
      refine OGo.fin X0 (v := some (.int (-4 : Int32))) (fun h => by rw [Bd.returns] at h; cases h) hlk (fun fs hr => X0.ireturnOut hx Bd.returns rfl (Or.inl rfl) (hb hby own_d_jdk_65_method_59_code_71) hr) ?_ (by decide) (by decide)
      show own_Q_rm5 Z c1 q k1 d0 d1 d2 r h0 n0 _ s₁.heap _
      rw [e0]
      exact ⟨by rw [← hr]; simp [own_bs, hc33, hc33_3], N0, rfl⟩
    · refine OGo.st (fun _ k_ => XS.icmpYes X0.here hx rfl (pc0 := 33) (pc' := 45) rfl (hb hby own_d_jdk_65_method_59_code_33) rfl (XT.ii_ge_t hc33_3) (by decide) (by decide) k_) ?_
      show OGo p.tables e below _ (s₁.setTop (mkF m 45 #[.val (.ref c1), .val (.int (0 : Int32)), .val (.int (3 : Int32)), .val (.int q), .val (.int (2 : Int32)), .val (.int (2 : Int32)), .val (.int (2 : Int32)), .val (.int d2)] []))
      refine OGo.st (fun _ k_ => XS.iload X0.here hx rfl (hb hby own_d_jdk_65_method_59_code_45) rfl k_) ?_
      show OGo p.tables e below _ (s₁.setTop (mkF m 47 #[.val (.ref c1), .val (.int (0 : Int32)), .val (.int (3 : Int32)), .val (.int q), .val (.int (2 : Int32)), .val (.int (2 : Int32)), .val (.int (2 : Int32)), .val (.int d2)] [(.int d2)]))
      refine OGo.st (fun _ k_ => XS.iloadN X0.here hx rfl (hb hby own_d_jdk_65_method_59_code_47) rfl k_) ?_
      show OGo p.tables e below _ (s₁.setTop (mkF m 48 #[.val (.ref c1), .val (.int (0 : Int32)), .val (.int (3 : Int32)), .val (.int q), .val (.int (2 : Int32)), .val (.int (2 : Int32)), .val (.int (2 : Int32)), .val (.int d2)] [(.int q), (.int d2)]))
      by_cases hc48 : q < d2
      · refine OGo.st (fun _ k_ => XS.icmpNo X0.here hx rfl (hb hby own_d_jdk_65_method_59_code_48) rfl (XT.ii_le_f hc48) k_) ?_
        show OGo p.tables e below _ (s₁.setTop (mkF m 51 #[.val (.ref c1), .val (.int (0 : Int32)), .val (.int (3 : Int32)), .val (.int q), .val (.int (2 : Int32)), .val (.int (2 : Int32)), .val (.int (2 : Int32)), .val (.int d2)] []))
        refine OGo.st (fun _ k_ => XS.iload X0.here hx rfl (hb hby own_d_jdk_65_method_59_code_51) rfl k_) ?_
        show OGo p.tables e below _ (s₁.setTop (mkF m 53 #[.val (.ref c1), .val (.int (0 : Int32)), .val (.int (3 : Int32)), .val (.int q), .val (.int (2 : Int32)), .val (.int (2 : Int32)), .val (.int (2 : Int32)), .val (.int d2)] [(.int (2 : Int32))]))
        refine OGo.st (fun _ k_ => XS.iconst X0.here hx rfl (hb hby own_d_jdk_65_method_59_code_53) k_) ?_
        show OGo p.tables e below _ (s₁.setTop (mkF m 54 #[.val (.ref c1), .val (.int (0 : Int32)), .val (.int (3 : Int32)), .val (.int q), .val (.int (2 : Int32)), .val (.int (2 : Int32)), .val (.int (2 : Int32)), .val (.int d2)] [(.int (1 : Int32)), (.int (2 : Int32))]))
        refine OGo.st (fun _ k_ => XS.isub X0.here hx rfl (hb hby own_d_jdk_65_method_59_code_54) rfl k_) ?_
        show OGo p.tables e below _ (s₁.setTop (mkF m 55 #[.val (.ref c1), .val (.int (0 : Int32)), .val (.int (3 : Int32)), .val (.int q), .val (.int (2 : Int32)), .val (.int (2 : Int32)), .val (.int (2 : Int32)), .val (.int d2)] [(.int (1 : Int32))]))
        refine OGo.st (fun _ k_ => XS.istore X0.here hx rfl (hb hby own_d_jdk_65_method_59_code_55) rfl (l' := #[.val (.ref c1), .val (.int (0 : Int32)), .val (.int (3 : Int32)), .val (.int q), .val (.int (2 : Int32)), .val (.int (1 : Int32)), .val (.int (2 : Int32)), .val (.int d2)]) rfl k_) ?_
        show OGo p.tables e below _ (s₁.setTop (mkF m 57 #[.val (.ref c1), .val (.int (0 : Int32)), .val (.int (3 : Int32)), .val (.int q), .val (.int (2 : Int32)), .val (.int (1 : Int32)), .val (.int (2 : Int32)), .val (.int d2)] []))
        refine OGo.st (fun _ k_ => XS.goto X0.here hx rfl (pc0 := 57) (pc' := 63) rfl (hb hby own_d_jdk_65_method_59_code_57) (by decide) (by decide) k_) ?_
        show OGo p.tables e below _ (s₁.setTop (mkF m 63 #[.val (.ref c1), .val (.int (0 : Int32)), .val (.int (3 : Int32)), .val (.int q), .val (.int (2 : Int32)), .val (.int (1 : Int32)), .val (.int (2 : Int32)), .val (.int d2)] []))
        refine OGo.st (fun _ k_ => XS.goto X0.here hx rfl (pc0 := 63) (pc' := 8) rfl (hb hby own_d_jdk_65_method_59_code_63) (by decide) (by decide) k_) ?_
        show OGo p.tables e below _ (s₁.setTop (mkF m 8 #[.val (.ref c1), .val (.int (0 : Int32)), .val (.int (3 : Int32)), .val (.int q), .val (.int (2 : Int32)), .val (.int (1 : Int32)), .val (.int (2 : Int32)), .val (.int d2)] []))
        refine OGo.st (fun _ k_ => XS.iload X0.here hx rfl (hb hby own_d_jdk_65_method_59_code_8) rfl k_) ?_
        show OGo p.tables e below _ (s₁.setTop (mkF m 10 #[.val (.ref c1), .val (.int (0 : Int32)), .val (.int (3 : Int32)), .val (.int q), .val (.int (2 : Int32)), .val (.int (1 : Int32)), .val (.int (2 : Int32)), .val (.int d2)] [(.int (2 : Int32))]))
        refine OGo.st (fun _ k_ => XS.iload X0.here hx rfl (hb hby own_d_jdk_65_method_59_code_10) rfl k_) ?_
        show OGo p.tables e below _ (s₁.setTop (mkF m 12 #[.val (.ref c1), .val (.int (0 : Int32)), .val (.int (3 : Int32)), .val (.int q), .val (.int (2 : Int32)), .val (.int (1 : Int32)), .val (.int (2 : Int32)), .val (.int d2)] [(.int (1 : Int32)), (.int (2 : Int32))]))
        refine OGo.st (fun _ k_ => XS.icmpYes X0.here hx rfl (pc0 := 12) (pc' := 66) rfl (hb hby own_d_jdk_65_method_59_code_12) rfl (XT.ii_gt_t (by decide)) (by decide) (by decide) k_) ?_
        show OGo p.tables e below _ (s₁.setTop (mkF m 66 #[.val (.ref c1), .val (.int (0 : Int32)), .val (.int (3 : Int32)), .val (.int q), .val (.int (2 : Int32)), .val (.int (1 : Int32)), .val (.int (2 : Int32)), .val (.int d2)] []))
        refine OGo.st (fun _ k_ => XS.iload X0.here hx rfl (hb hby own_d_jdk_65_method_59_code_66) rfl k_) ?_
        show OGo p.tables e below _ (s₁.setTop (mkF m 68 #[.val (.ref c1), .val (.int (0 : Int32)), .val (.int (3 : Int32)), .val (.int q), .val (.int (2 : Int32)), .val (.int (1 : Int32)), .val (.int (2 : Int32)), .val (.int d2)] [(.int (2 : Int32))]))
        refine OGo.st (fun _ k_ => XS.iconst X0.here hx rfl (hb hby own_d_jdk_65_method_59_code_68) k_) ?_
        show OGo p.tables e below _ (s₁.setTop (mkF m 69 #[.val (.ref c1), .val (.int (0 : Int32)), .val (.int (3 : Int32)), .val (.int q), .val (.int (2 : Int32)), .val (.int (1 : Int32)), .val (.int (2 : Int32)), .val (.int d2)] [(.int (1 : Int32)), (.int (2 : Int32))]))
        refine OGo.st (fun _ k_ => XS.iadd X0.here hx rfl (hb hby own_d_jdk_65_method_59_code_69) rfl k_) ?_
        show OGo p.tables e below _ (s₁.setTop (mkF m 70 #[.val (.ref c1), .val (.int (0 : Int32)), .val (.int (3 : Int32)), .val (.int q), .val (.int (2 : Int32)), .val (.int (1 : Int32)), .val (.int (2 : Int32)), .val (.int d2)] [(.int (3 : Int32))]))
        refine OGo.st (fun _ k_ => XS.ineg X0.here hx rfl (hb hby own_d_jdk_65_method_59_code_70) rfl k_) ?_
        show OGo p.tables e below _ (s₁.setTop (mkF m 71 #[.val (.ref c1), .val (.int (0 : Int32)), .val (.int (3 : Int32)), .val (.int q), .val (.int (2 : Int32)), .val (.int (1 : Int32)), .val (.int (2 : Int32)), .val (.int d2)] [(.int (-3 : Int32))]))
        refine OGo.fin X0 (v := some (.int (-3 : Int32))) (fun h => by rw [Bd.returns] at h; cases h) hlk (fun fs hr => X0.ireturnOut hx Bd.returns rfl (Or.inl rfl) (hb hby own_d_jdk_65_method_59_code_71) hr) ?_ (by decide) (by decide)
        show own_Q_rm5 Z c1 q k1 d0 d1 d2 r h0 n0 _ s₁.heap _
        rw [e0]
        exact ⟨by rw [← hr]; simp [own_bs, hc33, hc33_3, hc48], N0, rfl⟩
      · refine OGo.st (fun _ k_ => XS.icmpYes X0.here hx rfl (pc0 := 48) (pc' := 60) rfl (hb hby own_d_jdk_65_method_59_code_48) rfl (XT.ii_le_t hc48) (by decide) (by decide) k_) ?_
        show OGo p.tables e below _ (s₁.setTop (mkF m 60 #[.val (.ref c1), .val (.int (0 : Int32)), .val (.int (3 : Int32)), .val (.int q), .val (.int (2 : Int32)), .val (.int (2 : Int32)), .val (.int (2 : Int32)), .val (.int d2)] []))
        refine OGo.st (fun _ k_ => XS.iload X0.here hx rfl (hb hby own_d_jdk_65_method_59_code_60) rfl k_) ?_
        show OGo p.tables e below _ (s₁.setTop (mkF m 62 #[.val (.ref c1), .val (.int (0 : Int32)), .val (.int (3 : Int32)), .val (.int q), .val (.int (2 : Int32)), .val (.int (2 : Int32)), .val (.int (2 : Int32)), .val (.int d2)] [(.int (2 : Int32))]))
        refine OGo.fin X0 (v := some (.int (2 : Int32))) (fun h => by rw [Bd.returns] at h; cases h) hlk (fun fs hr => X0.ireturnOut hx Bd.returns rfl (Or.inl rfl) (hb hby own_d_jdk_65_method_59_code_62) hr) ?_ (by decide) (by decide)
        show own_Q_rm5 Z c1 q k1 d0 d1 d2 r h0 n0 _ s₁.heap _
        rw [e0]
        exact ⟨by rw [← hr]; simp [own_bs, hc33, hc33_3, hc48], N0, rfl⟩
  · refine OGo.st (fun _ k_ => XS.icmpYes X0.here hx rfl (pc0 := 33) (pc' := 45) rfl (hb hby own_d_jdk_65_method_59_code_33) rfl (XT.ii_ge_t hc33) (by decide) (by decide) k_) ?_
    show OGo p.tables e below _ (s₁.setTop (mkF m 45 #[.val (.ref c1), .val (.int (0 : Int32)), .val (.int (3 : Int32)), .val (.int q), .val (.int (0 : Int32)), .val (.int (2 : Int32)), .val (.int (1 : Int32)), .val (.int d1)] []))
    refine OGo.st (fun _ k_ => XS.iload X0.here hx rfl (hb hby own_d_jdk_65_method_59_code_45) rfl k_) ?_
    show OGo p.tables e below _ (s₁.setTop (mkF m 47 #[.val (.ref c1), .val (.int (0 : Int32)), .val (.int (3 : Int32)), .val (.int q), .val (.int (0 : Int32)), .val (.int (2 : Int32)), .val (.int (1 : Int32)), .val (.int d1)] [(.int d1)]))
    refine OGo.st (fun _ k_ => XS.iloadN X0.here hx rfl (hb hby own_d_jdk_65_method_59_code_47) rfl k_) ?_
    show OGo p.tables e below _ (s₁.setTop (mkF m 48 #[.val (.ref c1), .val (.int (0 : Int32)), .val (.int (3 : Int32)), .val (.int q), .val (.int (0 : Int32)), .val (.int (2 : Int32)), .val (.int (1 : Int32)), .val (.int d1)] [(.int q), (.int d1)]))
    by_cases hc48 : q < d1
    · refine OGo.st (fun _ k_ => XS.icmpNo X0.here hx rfl (hb hby own_d_jdk_65_method_59_code_48) rfl (XT.ii_le_f hc48) k_) ?_
      show OGo p.tables e below _ (s₁.setTop (mkF m 51 #[.val (.ref c1), .val (.int (0 : Int32)), .val (.int (3 : Int32)), .val (.int q), .val (.int (0 : Int32)), .val (.int (2 : Int32)), .val (.int (1 : Int32)), .val (.int d1)] []))
      refine OGo.st (fun _ k_ => XS.iload X0.here hx rfl (hb hby own_d_jdk_65_method_59_code_51) rfl k_) ?_
      show OGo p.tables e below _ (s₁.setTop (mkF m 53 #[.val (.ref c1), .val (.int (0 : Int32)), .val (.int (3 : Int32)), .val (.int q), .val (.int (0 : Int32)), .val (.int (2 : Int32)), .val (.int (1 : Int32)), .val (.int d1)] [(.int (1 : Int32))]))
      refine OGo.st (fun _ k_ => XS.iconst X0.here hx rfl (hb hby own_d_jdk_65_method_59_code_53) k_) ?_
      show OGo p.tables e below _ (s₁.setTop (mkF m 54 #[.val (.ref c1), .val (.int (0 : Int32)), .val (.int (3 : Int32)), .val (.int q), .val (.int (0 : Int32)), .val (.int (2 : Int32)), .val (.int (1 : Int32)), .val (.int d1)] [(.int (1 : Int32)), (.int (1 : Int32))]))
      refine OGo.st (fun _ k_ => XS.isub X0.here hx rfl (hb hby own_d_jdk_65_method_59_code_54) rfl k_) ?_
      show OGo p.tables e below _ (s₁.setTop (mkF m 55 #[.val (.ref c1), .val (.int (0 : Int32)), .val (.int (3 : Int32)), .val (.int q), .val (.int (0 : Int32)), .val (.int (2 : Int32)), .val (.int (1 : Int32)), .val (.int d1)] [(.int (0 : Int32))]))
      refine OGo.st (fun _ k_ => XS.istore X0.here hx rfl (hb hby own_d_jdk_65_method_59_code_55) rfl (l' := #[.val (.ref c1), .val (.int (0 : Int32)), .val (.int (3 : Int32)), .val (.int q), .val (.int (0 : Int32)), .val (.int (0 : Int32)), .val (.int (1 : Int32)), .val (.int d1)]) rfl k_) ?_
      show OGo p.tables e below _ (s₁.setTop (mkF m 57 #[.val (.ref c1), .val (.int (0 : Int32)), .val (.int (3 : Int32)), .val (.int q), .val (.int (0 : Int32)), .val (.int (0 : Int32)), .val (.int (1 : Int32)), .val (.int d1)] []))
      refine OGo.st (fun _ k_ => XS.goto X0.here hx rfl (pc0 := 57) (pc' := 63) rfl (hb hby own_d_jdk_65_method_59_code_57) (by decide) (by decide) k_) ?_
      show OGo p.tables e below _ (s₁.setTop (mkF m 63 #[.val (.ref c1), .val (.int (0 : Int32)), .val (.int (3 : Int32)), .val (.int q), .val (.int (0 : Int32)), .val (.int (0 : Int32)), .val (.int (1 : Int32)), .val (.int d1)] []))
      refine OGo.st (fun _ k_ => XS.goto X0.here hx rfl (pc0 := 63) (pc' := 8) rfl (hb hby own_d_jdk_65_method_59_code_63) (by decide) (by decide) k_) ?_
      show OGo p.tables e below _ (s₁.setTop (mkF m 8 #[.val (.ref c1), .val (.int (0 : Int32)), .val (.int (3 : Int32)), .val (.int q), .val (.int (0 : Int32)), .val (.int (0 : Int32)), .val (.int (1 : Int32)), .val (.int d1)] []))
      refine OGo.st (fun _ k_ => XS.iload X0.here hx rfl (hb hby own_d_jdk_65_method_59_code_8) rfl k_) ?_
      show OGo p.tables e below _ (s₁.setTop (mkF m 10 #[.val (.ref c1), .val (.int (0 : Int32)), .val (.int (3 : Int32)), .val (.int q), .val (.int (0 : Int32)), .val (.int (0 : Int32)), .val (.int (1 : Int32)), .val (.int d1)] [(.int (0 : Int32))]))
      refine OGo.st (fun _ k_ => XS.iload X0.here hx rfl (hb hby own_d_jdk_65_method_59_code_10) rfl k_) ?_
      show OGo p.tables e below _ (s₁.setTop (mkF m 12 #[.val (.ref c1), .val (.int (0 : Int32)), .val (.int (3 : Int32)), .val (.int q), .val (.int (0 : Int32)), .val (.int (0 : Int32)), .val (.int (1 : Int32)), .val (.int d1)] [(.int (0 : Int32)), (.int (0 : Int32))]))
      refine OGo.st (fun _ k_ => XS.icmpNo X0.here hx rfl (hb hby own_d_jdk_65_method_59_code_12) rfl (XT.ii_gt_f (by decide)) k_) ?_
      show OGo p.tables e below _ (s₁.setTop (mkF m 15 #[.val (.ref c1), .val (.int (0 : Int32)), .val (.int (3 : Int32)), .val (.int q), .val (.int (0 : Int32)), .val (.int (0 : Int32)), .val (.int (1 : Int32)), .val (.int d1)] []))
      refine OGo.st (fun _ k_ => XS.iload X0.here hx rfl (hb hby own_d_jdk_65_method_59_code_15) rfl k_) ?_
      show OGo p.tables e below _ (s₁.setTop (mkF m 17 #[.val (.ref c1), .val (.int (0 : Int32)), .val (.int (3 : Int32)), .val (.int q), .val (.int (0 : Int32)), .val (.int (0 : Int32)), .val (.int (1 : Int32)), .val (.int d1)] [(.int (0 : Int32))]))
      refine OGo.st (fun _ k_ => XS.iload X0.here hx rfl (hb hby own_d_jdk_65_method_59_code_17) rfl k_) ?_
      show OGo p.tables e below _ (s₁.setTop (mkF m 19 #[.val (.ref c1), .val (.int (0 : Int32)), .val (.int (3 : Int32)), .val (.int q), .val (.int (0 : Int32)), .val (.int (0 : Int32)), .val (.int (1 : Int32)), .val (.int d1)] [(.int (0 : Int32)), (.int (0 : Int32))]))
      refine OGo.st (fun _ k_ => XS.iadd X0.here hx rfl (hb hby own_d_jdk_65_method_59_code_19) rfl k_) ?_
      show OGo p.tables e below _ (s₁.setTop (mkF m 20 #[.val (.ref c1), .val (.int (0 : Int32)), .val (.int (3 : Int32)), .val (.int q), .val (.int (0 : Int32)), .val (.int (0 : Int32)), .val (.int (1 : Int32)), .val (.int d1)] [(.int (0 : Int32))]))
      refine OGo.st (fun _ k_ => XS.iconst X0.here hx rfl (hb hby own_d_jdk_65_method_59_code_20) k_) ?_
      show OGo p.tables e below _ (s₁.setTop (mkF m 21 #[.val (.ref c1), .val (.int (0 : Int32)), .val (.int (3 : Int32)), .val (.int q), .val (.int (0 : Int32)), .val (.int (0 : Int32)), .val (.int (1 : Int32)), .val (.int d1)] [(.int (1 : Int32)), (.int (0 : Int32))]))
      refine OGo.st (fun _ k_ => XS.iushr X0.here hx rfl (hb hby own_d_jdk_65_method_59_code_21) rfl k_) ?_
      show OGo p.tables e below _ (s₁.setTop (mkF m 22 #[.val (.ref c1), .val (.int (0 : Int32)), .val (.int (3 : Int32)), .val (.int q), .val (.int (0 : Int32)), .val (.int (0 : Int32)), .val (.int (1 : Int32)), .val (.int d1)] [(.int (0 : Int32))]))
      refine OGo.st (fun _ k_ => XS.istore X0.here hx rfl (hb hby own_d_jdk_65_method_59_code_22) rfl (l' := #[.val (.ref c1), .val (.int (0 : Int32)), .val (.int (3 : Int32)), .val (.int q), .val (.int (0 : Int32)), .val (.int (0 : Int32)), .val (.int (0 : Int32)), .val (.int d1)]) rfl k_) ?_
      show OGo p.tables e below _ (s₁.setTop (mkF m 24 #[.val (.ref c1), .val (.int (0 : Int32)), .val (.int (3 : Int32)), .val (.int q), .val (.int (0 : Int32)), .val (.int (0 : Int32)), .val (.int (0 : Int32)), .val (.int d1)] []))
      refine OGo.st (fun _ k_ => XS.aloadN X0.here hx rfl (hb hby own_d_jdk_65_method_59_code_24) rfl rfl k_) ?_
      show OGo p.tables e below _ (s₁.setTop (mkF m 25 #[.val (.ref c1), .val (.int (0 : Int32)), .val (.int (3 : Int32)), .val (.int q), .val (.int (0 : Int32)), .val (.int (0 : Int32)), .val (.int (0 : Int32)), .val (.int d1)] [(.ref c1)]))
      refine OGo.st (fun _ k_ => XS.iload X0.here hx rfl (hb hby own_d_jdk_65_method_59_code_25) rfl k_) ?_
      show OGo p.tables e below _ (s₁.setTop (mkF m 27 #[.val (.ref c1), .val (.int (0 : Int32)), .val (.int (3 : Int32)), .val (.int q), .val (.int (0 : Int32)), .val (.int (0 : Int32)), .val (.int (0 : Int32)), .val (.int d1)] [(.int (0 : Int32)), (.ref c1)]))
      have qz4 := own_ldI X0 hx hZ e0 A_c1 (j := (0 : Int32)) (v := d0) (by decide) rfl (g := (mkF m 27 #[.val (.ref c1), .val (.int (0 : Int32)), .val (.int (3 : Int32)), .val (.int q), .val (.int (0 : Int32)), .val (.int (0 : Int32)), .val (.int (0 : Int32)), .val (.int d1)] [(.int (0 : Int32)), (.ref c1)])) rfl rfl (hb hby own_d_jdk_65_method_59_code_27)
      refine OGo.st qz4 ?_
      show OGo p.tables e below _ (s₁.setTop (mkF m 28 #[.val (.ref c1), .val (.int (0 : Int32)), .val (.int (3 : Int32)), .val (.int q), .val (.int (0 : Int32)), .val (.int (0 : Int32)), .val (.int (0 : Int32)), .val (.int d1)] [(.int d0)]))
      refine OGo.st (fun _ k_ => XS.istore X0.here hx rfl (hb hby own_d_jdk_65_method_59_code_28) rfl (l' := #[.val (.ref c1), .val (.int (0 : Int32)), .val (.int (3 : Int32)), .val (.int q), .val (.int (0 : Int32)), .val (.int (0 : Int32)), .val (.int (0 : Int32)), .val (.int d0)]) rfl k_) ?_
      show OGo p.tables e below _ (s₁.setTop (mkF m 30 #[.val (.ref c1), .val (.int (0 : Int32)), .val (.int (3 : Int32)), .val (.int q), .val (.int (0 : Int32)), .val (.int (0 : Int32)), .val (.int (0 : Int32)), .val (.int d0)] []))
      refine OGo.st (fun _ k_ => XS.iload X0.here hx rfl (hb hby own_d_jdk_65_method_59_code_30) rfl k_) ?_
      show OGo p.tables e below _ (s₁.setTop (mkF m 32 #[.val (.ref c1), .val (.int (0 : Int32)), .val (.int (3 : Int32)), .val (.int q), .val (.int (0 : Int32)), .val (.int (0 : Int32)), .val (.int (0 : Int32)), .val (.int d0)] [(.int d0)]))
      refine OGo.st (fun _ k_ => XS.iloadN X0.here hx rfl (hb hby own_d_jdk_65_method_59_code_32) rfl k_) ?_
      show OGo p.tables e below _ (s₁.setTop (mkF m 33 #[.val (.ref c1), .val (.int (0 : Int32)), .val (.int (3 : Int32)), .val (.int q), .val (.int (0 : Int32)), .val (.int (0 : Int32)), .val (.int (0 : Int32)), .val (.int d0)] [(.int q), (.int d0)]))
      by_cases hc33_5 : d0 < q
      · refine OGo.st (fun _ k_ => XS.icmpNo X0.here hx rfl (hb hby own_d_jdk_65_method_59_code_33) rfl (XT.ii_ge_f hc33_5) k_) ?_
        show OGo p.tables e below _ (s₁.setTop (mkF m 36 #[.val (.ref c1), .val (.int (0 : Int32)), .val (.int (3 : Int32)), .val (.int q), .val (.int (0 : Int32)), .val (.int (0 : Int32)), .val (.int (0 : Int32)), .val (.int d0)] []))
        refine OGo.st (fun _ k_ => XS.iload X0.here hx rfl (hb hby own_d_jdk_65_method_59_code_36) rfl k_) ?_
        show OGo p.tables e below _ (s₁.setTop (mkF m 38 #[.val (.ref c1), .val (.int (0 : Int32)), .val (.int (3 : Int32)), .val (.int q), .val (.int (0 : Int32)), .val (.int (0 : Int32)), .val (.int (0 : Int32)), .val (.int d0)] [(.int (0 : Int32))]))
        refine OGo.st (fun _ k_ => XS.iconst X0.here hx rfl (hb hby own_d_jdk_65_method_59_code_38) k_) ?_
        show OGo p.tables e below _ (s₁.setTop (mkF m 39 #[.val (.ref c1), .val (.int (0 : Int32)), .val (.int (3 : Int32)), .val (.int q), .val (.int (0 : Int32)), .val (.int (0 : Int32)), .val (.int (0 : Int32)), .val (.int d0)] [(.int (1 : Int32)), (.int (0 : Int32))]))
        refine OGo.st (fun _ k_ => XS.iadd X0.here hx rfl (hb hby own_d_jdk_65_method_59_code_39) rfl k_) ?_
        show OGo p.tables e below _ (s₁.setTop (mkF m 40 #[.val (.ref c1), .val (.int (0 : Int32)), .val (.int (3 : Int32)), .val (.int q), .val (.int (0 : Int32)), .val (.int (0 : Int32)), .val (.int (0 : Int32)), .val (.int d0)] [(.int (1 : Int32))]))
        refine OGo.st (fun _ k_ => XS.istore X0.here hx rfl (hb hby own_d_jdk_65_method_59_code_40) rfl (l' := #[.val (.ref c1), .val (.int (0 : Int32)), .val (.int (3 : Int32)), .val (.int q), .val (.int (1 : Int32)), .val (.int (0 : Int32)), .val (.int (0 : Int32)), .val (.int d0)]) rfl k_) ?_
        show OGo p.tables e below _ (s₁.setTop (mkF m 42 #[.val (.ref c1), .val (.int (0 : Int32)), .val (.int (3 : Int32)), .val (.int q), .val (.int (1 : Int32)), .val (.int (0 : Int32)), .val (.int (0 : Int32)), .val (.int d0)] []))
        refine OGo.st (fun _ k_ => XS.goto X0.here hx rfl (pc0 := 42) (pc' := 63) rfl (hb hby own_d_jdk_65_method_59_code_42) (by decide) (by decide) k_) ?_
        show OGo p.tables e below _ (s₁.setTop (mkF m 63 #[.val (.ref c1), .val (.int (0 : Int32)), .val (.int (3 : Int32)), .val (.int q), .val (.int (1 : Int32)), .val (.int (0 : Int32)), .val (.int (0 : Int32)), .val (.int d0)] []))
        refine OGo.st (fun _ k_ => XS.goto X0.here hx rfl (pc0 := 63) (pc' := 8) rfl (hb hby own_d_jdk_65_method_59_code_63) (by decide) (by decide) k_) ?_
        show OGo p.tables e below _ (s₁.setTop (mkF m 8 #[.val (.ref c1), .val (.int (0 : Int32)), .val (.int (3 : Int32)), .val (.int q), .val (.int (1 : Int32)), .val (.int (0 : Int32)), .val (.int (0 : Int32)), .val (.int d0)] []))
        refine OGo.st (fun _ k_ => XS.iload X0.here hx rfl (hb hby own_d_jdk_65_method_59_code_8) rfl k_) ?_
        show OGo p.tables e below _ (s₁.setTop (mkF m 10 #[.val (.ref c1), .val (.int (0 : Int32)), .val (.int (3 : Int32)), .val (.int q), .val (.int (1 : Int32)), .val (.int (0 : Int32)), .val (.int (0 : Int32)), .val (.int d0)] [(.int (1 : Int32))]))
        refine OGo.st (fun _ k_ => XS.iload X0.here hx rfl (hb hby own_d_jdk_65_method_59_code_10) rfl k_) ?_
        show OGo p.tables e below _ (s₁.setTop (mkF m 12 #[.val (.ref c1), .val (.int (0 : Int32)), .val (.int (3 : Int32)), .val (.int q), .val (.int (1 : Int32)), .val (.int (0 : Int32)), .val (.int (0 : Int32)), .val (.int d0)] [(.int (0 : Int32)), (.int (1 : Int32))]))
        refine OGo.st (fun _ k_ => XS.icmpYes X0.here hx rfl (pc0 := 12) (pc' := 66) rfl (hb hby own_d_jdk_65_method_59_code_12) rfl (XT.ii_gt_t (by decide)) (by decide) (by decide) k_) ?_
        show OGo p.tables e below _ (s₁.setTop (mkF m 66 #[.val (.ref c1), .val (.int (0 : Int32)), .val (.int (3 : Int32)), .val (.int q), .val (.int (1 : Int32)), .val (.int (0 : Int32)), .val (.int (0 : Int32)), .val (.int d0)] []))
        refine OGo.st (fun _ k_ => XS.iload X0.here hx rfl (hb hby own_d_jdk_65_method_59_code_66) rfl k_) ?_
        show OGo p.tables e below _ (s₁.setTop (mkF m 68 #[.val (.ref c1), .val (.int (0 : Int32)), .val (.int (3 : Int32)), .val (.int q), .val (.int (1 : Int32)), .val (.int (0 : Int32)), .val (.int (0 : Int32)), .val (.int d0)] [(.int (1 : Int32))]))
        refine OGo.st (fun _ k_ => XS.iconst X0.here hx rfl (hb hby own_d_jdk_65_method_59_code_68) k_) ?_
        show OGo p.tables e below _ (s₁.setTop (mkF m 69 #[.val (.ref c1), .val (.int (0 : Int32)), .val (.int (3 : Int32)), .val (.int q), .val (.int (1 : Int32)), .val (.int (0 : Int32)), .val (.int (0 : Int32)), .val (.int d0)] [(.int (1 : Int32)), (.int (1 : Int32))]))
        refine OGo.st (fun _ k_ => XS.iadd X0.here hx rfl (hb hby own_d_jdk_65_method_59_code_69) rfl k_) ?_
        show OGo p.tables e below _ (s₁.setTop (mkF m 70 #[.val (.ref c1), .val (.int (0 : Int32)), .val (.int (3 : Int32)), .val (.int q), .val (.int (1 : Int32)), .val (.int (0 : Int32)), .val (.int (0 : Int32)), .val (.int d0)] [(.int (2 : Int32))]))
        refine OGo.st (fun _ k_ => XS.ineg X0.here hx rfl (hb hby own_d_jdk_65_method_59_code_70) rfl k_) ?_
        show OGo p.tables e below _ (s₁.setTop (mkF m 71 #[.val (.ref c1), .val (.int (0 : Int32)), .val (.int (3 : Int32)), .val (.int q), .val (.int (1 : Int32)), .val (.int (0 : Int32)), .val (.int (0 : Int32)), .val (.int d0)] [(.int (-2 : Int32))]))
        refine OGo.fin X0 (v := some (.int (-2 : Int32))) (fun h => by rw [Bd.returns] at h; cases h) hlk (fun fs hr => X0.ireturnOut hx Bd.returns rfl (Or.inl rfl) (hb hby own_d_jdk_65_method_59_code_71) hr) ?_ (by decide) (by decide)
        show own_Q_rm5 Z c1 q k1 d0 d1 d2 r h0 n0 _ s₁.heap _
        rw [e0]
        exact ⟨by rw [← hr]; simp [own_bs, hc33, hc48, hc33_5], N0, rfl⟩
      · refine OGo.st (fun _ k_ => XS.icmpYes X0.here hx rfl (pc0 := 33) (pc' := 45) rfl (hb hby own_d_jdk_65_method_59_code_33) rfl (XT.ii_ge_t hc33_5) (by decide) (by decide) k_) ?_
        show OGo p.tables e below _ (s₁.setTop (mkF m 45 #[.val (.ref c1), .val (.int (0 : Int32)), .val (.int (3 : Int32)), .val (.int q), .val (.int (0 : Int32)), .val (.int (0 : Int32)), .val (.int (0 : Int32)), .val (.int d0)] []))
        refine OGo.st (fun _ k_ => XS.iload X0.here hx rfl (hb hby own_d_jdk_65_method_59_code_45) rfl k_) ?_
        show OGo p.tables e below _ (s₁.setTop (mkF m 47 #[.val (.ref c1), .val (.int (0 : Int32)), .val (.int (3 : Int32)), .val (.int q), .val (.int (0 : Int32)), .val (.int (0 : Int32)), .val (.int (0 : Int32)), .val (.int d0)] [(.int d0)]))
        refine OGo.st (fun _ k_ => XS.iloadN X0.here hx rfl (hb hby own_d_jdk_65_method_59_code_47) rfl k_) ?_
        show OGo p.tables e below _ (s₁.setTop (mkF m 48 #[.val (.ref c1), .val (.int (0 : Int32)), .val (.int (3 : Int32)), .val (.int q), .val (.int (0 : Int32)), .val (.int (0 : Int32)), .val (.int (0 : Int32)), .val (.int d0)] [(.int q), (.int d0)]))
        by_cases hc48_6 : q < d0
        · refine OGo.st (fun _ k_ => XS.icmpNo X0.here hx rfl (hb hby own_d_jdk_65_method_59_code_48) rfl (XT.ii_le_f hc48_6) k_) ?_
          show OGo p.tables e below _ (s₁.setTop (mkF m 51 #[.val (.ref c1), .val (.int (0 : Int32)), .val (.int (3 : Int32)), .val (.int q), .val (.int (0 : Int32)), .val (.int (0 : Int32)), .val (.int (0 : Int32)), .val (.int d0)] []))
          refine OGo.st (fun _ k_ => XS.iload X0.here hx rfl (hb hby own_d_jdk_65_method_59_code_51) rfl k_) ?_
          show OGo p.tables e below _ (s₁.setTop (mkF m 53 #[.val (.ref c1), .val (.int (0 : Int32)), .val (.int (3 : Int32)), .val (.int q), .val (.int (0 : Int32)), .val (.int (0 : Int32)), .val (.int (0 : Int32)), .val (.int d0)] [(.int (0 : Int32))]))
          refine OGo.st (fun _ k_ => XS.iconst X0.here hx rfl (hb hby own_d_jdk_65_method_59_code_53) k_) ?_
          show OGo p.tables e below _ (s₁.setTop (mkF m 54 #[.val (.ref c1), .val (.int (0 : Int32)), .val (.int (3 : Int32)), .val (.int q), .val (.int (0 : Int32)), .val (.int (0 : Int32)), .val (.int (0 : Int32)), .val (.int d0)] [(.int (1 : Int32)), (.int (0 : Int32))]))
          refine OGo.st (fun _ k_ => XS.isub X0.here hx rfl (hb hby own_d_jdk_65_method_59_code_54) rfl k_) ?_
          show OGo p.tables e below _ (s₁.setTop (mkF m 55 #[.val (.ref c1), .val (.int (0 : Int32)), .val (.int (3 : Int32)), .val (.int q), .val (.int (0 : Int32)), .val (.int (0 : Int32)), .val (.int (0 : Int32)), .val (.int d0)] [(.int (-1 : Int32))]))
          refine OGo.st (fun _ k_ => XS.istore X0.here hx rfl (hb hby own_d_jdk_65_method_59_code_55) rfl (l' := #[.val (.ref c1), .val (.int (0 : Int32)), .val (.int (3 : Int32)), .val (.int q), .val (.int (0 : Int32)), .val (.int (-1 : Int32)), .val (.int (0 : Int32)), .val (.int d0)]) rfl k_) ?_
          show OGo p.tables e below _ (s₁.setTop (mkF m 57 #[.val (.ref c1), .val (.int (0 : Int32)), .val (.int (3 : Int32)), .val (.int q), .val (.int (0 : Int32)), .val (.int (-1 : Int32)), .val (.int (0 : Int32)), .val (.int d0)] []))
          refine OGo.st (fun _ k_ => XS.goto X0.here hx rfl (pc0 := 57) (pc' := 63) rfl (hb hby own_d_jdk_65_method_59_code_57) (by decide) (by decide) k_) ?_
          show OGo p.tables e below _ (s₁.setTop (mkF m 63 #[.val (.ref c1), .val (.int (0 : Int32)), .val (.int (3 : Int32)), .val (.int q), .val (.int (0 : Int32)), .val (.int (-1 : Int32)), .val (.int (0 : Int32)), .val (.int d0)] []))
          refine OGo.st (fun _ k_ => XS.goto X0.here hx rfl (pc0 := 63) (pc' := 8) rfl (hb hby own_d_jdk_65_method_59_code_63) (by decide) (by decide) k_) ?_
          show OGo p.tables e below _ (s₁.setTop (mkF m 8 #[.val (.ref c1), .val (.int (0 : Int32)), .val (.int (3 : Int32)), .val (.int q), .val (.int (0 : Int32)), .val (.int (-1 : Int32)), .val (.int (0 : Int32)), .val (.int d0)] []))
          refine OGo.st (fun _ k_ => XS.iload X0.here hx rfl (hb hby own_d_jdk_65_method_59_code_8) rfl k_) ?_
          show OGo p.tables e below _ (s₁.setTop (mkF m 10 #[.val (.ref c1), .val (.int (0 : Int32)), .val (.int (3 : Int32)), .val (.int q), .val (.int (0 : Int32)), .val (.int (-1 : Int32)), .val (.int (0 : Int32)), .val (.int d0)] [(.int (0 : Int32))]))
          refine OGo.st (fun _ k_ => XS.iload X0.here hx rfl (hb hby own_d_jdk_65_method_59_code_10) rfl k_) ?_
          show OGo p.tables e below _ (s₁.setTop (mkF m 12 #[.val (.ref c1), .val (.int (0 : Int32)), .val (.int (3 : Int32)), .val (.int q), .val (.int (0 : Int32)), .val (.int (-1 : Int32)), .val (.int (0 : Int32)), .val (.int d0)] [(.int (-1 : Int32)), (.int (0 : Int32))]))
          refine OGo.st (fun _ k_ => XS.icmpYes X0.here hx rfl (pc0 := 12) (pc' := 66) rfl (hb hby own_d_jdk_65_method_59_code_12) rfl (XT.ii_gt_t (by decide)) (by decide) (by decide) k_) ?_
          show OGo p.tables e below _ (s₁.setTop (mkF m 66 #[.val (.ref c1), .val (.int (0 : Int32)), .val (.int (3 : Int32)), .val (.int q), .val (.int (0 : Int32)), .val (.int (-1 : Int32)), .val (.int (0 : Int32)), .val (.int d0)] []))
          refine OGo.st (fun _ k_ => XS.iload X0.here hx rfl (hb hby own_d_jdk_65_method_59_code_66) rfl k_) ?_
          show OGo p.tables e below _ (s₁.setTop (mkF m 68 #[.val (.ref c1), .val (.int (0 : Int32)), .val (.int (3 : Int32)), .val (.int q), .val (.int (0 : Int32)), .val (.int (-1 : Int32)), .val (.int (0 : Int32)), .val (.int d0)] [(.int (0 : Int32))]))
          refine OGo.st (fun _ k_ => XS.iconst X0.here hx rfl (hb hby own_d_jdk_65_method_59_code_68) k_) ?_
          show OGo p.tables e below _ (s₁.setTop (mkF m 69 #[.val (.ref c1), .val (.int (0 : Int32)), .val (.int (3 : Int32)), .val (.int q), .val (.int (0 : Int32)), .val (.int (-1 : Int32)), .val (.int (0 : Int32)), .val (.int d0)] [(.int (1 : Int32)), (.int (0 : Int32))]))
          refine OGo.st (fun _ k_ => XS.iadd X0.here hx rfl (hb hby own_d_jdk_65_method_59_code_69) rfl k_) ?_
          show OGo p.tables e below _ (s₁.setTop (mkF m 70 #[.val (.ref c1), .val (.int (0 : Int32)), .val (.int (3 : Int32)), .val (.int q), .val (.int (0 : Int32)), .val (.int (-1 : Int32)), .val (.int (0 : Int32)), .val (.int d0)] [(.int (1 : Int32))]))
          refine OGo.st (fun _ k_ => XS.ineg X0.here hx rfl (hb hby own_d_jdk_65_method_59_code_70) rfl k_) ?_
          show OGo p.tables e below _ (s₁.setTop (mkF m 71 #[.val (.ref c1), .val (.int (0 : Int32)), .val (.int (3 : Int32)), .val (.int q), .val (.int (0 : Int32)), .val (.int (-1 : Int32)), .val (.int (0 : Int32)), .val (.int d0)] [(.int (-1 : Int32))]))
          refine OGo.fin X0 (v := some (.int (-1 : Int32))) (fun h => by rw [Bd.returns] at h; cases h) hlk (fun fs hr => X0.ireturnOut hx Bd.returns rfl (Or.inl rfl) (hb hby own_d_jdk_65_method_59_code_71) hr) ?_ (by decide) (by decide)
          show own_Q_rm5 Z c1 q k1 d0 d1 d2 r h0 n0 _ s₁.heap _
          rw [e0]
          exact ⟨by rw [← hr]; simp [own_bs, hc33, hc48, hc33_5, hc48_6], N0, rfl⟩
        · refine OGo.st (fun _ k_ => XS.icmpYes X0.here hx rfl (pc0 := 48) (pc' := 60) rfl (hb hby own_d_jdk_65_method_59_code_48) rfl (XT.ii_le_t hc48_6) (by decide) (by decide) k_) ?_
          show OGo p.tables e below _ (s₁.setTop (mkF m 60 #[.val (.ref c1), .val (.int (0 : Int32)), .val (.int (3 : Int32)), .val (.int q), .val (.int (0 : Int32)), .val (.int (0 : Int32)), .val (.int (0 : Int32)), .val (.int d0)] []))
          refine OGo.st (fun _ k_ => XS.iload X0.here hx rfl (hb hby own_d_jdk_65_method_59_code_60) rfl k_) ?_
          show OGo p.tables e below _ (s₁.setTop (mkF m 62 #[.val (.ref c1), .val (.int (0 : Int32)), .val (.int (3 : Int32)), .val (.int q), .val (.int (0 : Int32)), .val (.int (0 : Int32)), .val (.int (0 : Int32)), .val (.int d0)] [(.int (0 : Int32))]))
          refine OGo.fin X0 (v := some (.int (0 : Int32))) (fun h => by rw [Bd.returns] at h; cases h) hlk (fun fs hr => X0.ireturnOut hx Bd.returns rfl (Or.inl rfl) (hb hby own_d_jdk_65_method_59_code_62) hr) ?_ (by decide) (by decide)
          show own_Q_rm5 Z c1 q k1 d0 d1 d2 r h0 n0 _ s₁.heap _
          rw [e0]
          exact ⟨by rw [← hr]; simp [own_bs, hc33, hc48, hc33_5, hc48_6], N0, rfl⟩
    · refine OGo.st (fun _ k_ => XS.icmpYes X0.here hx rfl (pc0 := 48) (pc' := 60) rfl (hb hby own_d_jdk_65_method_59_code_48) rfl (XT.ii_le_t hc48) (by decide) (by decide) k_) ?_
      show OGo p.tables e below _ (s₁.setTop (mkF m 60 #[.val (.ref c1), .val (.int (0 : Int32)), .val (.int (3 : Int32)), .val (.int q), .val (.int (0 : Int32)), .val (.int (2 : Int32)), .val (.int (1 : Int32)), .val (.int d1)] []))
      refine OGo.st (fun _ k_ => XS.iload X0.here hx rfl (hb hby own_d_jdk_65_method_59_code_60) rfl k_) ?_
      show OGo p.tables e below _ (s₁.setTop (mkF m 62 #[.val (.ref c1), .val (.int (0 : Int32)), .val (.int (3 : Int32)), .val (.int q), .val (.int (0 : Int32)), .val (.int (2 : Int32)), .val (.int (1 : Int32)), .val (.int d1)] [(.int (1 : Int32))]))
      refine OGo.fin X0 (v := some (.int (1 : Int32))) (fun h => by rw [Bd.returns] at h; cases h) hlk (fun fs hr => X0.ireturnOut hx Bd.returns rfl (Or.inl rfl) (hb hby own_d_jdk_65_method_59_code_62) hr) ?_ (by decide) (by decide)
      show own_Q_rm5 Z c1 q k1 d0 d1 d2 r h0 n0 _ s₁.heap _
      rw [e0]
      exact ⟨by rw [← hr]; simp [own_bs, hc33, hc48], N0, rfl⟩
theorem own_ef_rm6 (m : MethodId) (x0 : Addr) (x1 : Int32) (x2 : Int32) (x3 : Int32) : entryFrame m #[(.ref x0), (.int x1), (.int x2), (.int x3)] 8 = mkF m 0 #[.val (.ref x0), .val (.int x1), .val (.int x2), .val (.int x3), .unset, .unset, .unset, .unset] [] := by first | (simp [entryFrame, mkF, argsToLocals, Value.category]; done) | rfl
def own_Q_rm6 (Z : State) (c1 : Addr) (q : Int32) (h0 : Heap) (n0 : Nat) (v : Option Value) (h : Heap) (L : List Loc) : Prop := v = some (.int (-1)) ∧ Fr n0 L ∧ h = h0
set_option maxRecDepth 65536 in
set_option maxHeartbeats 40000000 in
theorem rm6 (l : Launch) (Z : State) (a0 : Array Value) (hw : ∀ d ∈ tables_1, d.before a0 Z = true) (ws : List Jvm.Cond) (c1 : Addr) (q : Int32) (h0 : Heap) (n0 : Nat) (Z0 : n0 ≤ h0.size)  :
    OMet l Z (⟨"java/util/Arrays", "binarySearch0", "([IIII)I"⟩ : MethodName) jdk_65_method_59_code 8 (some .int) ws ({ frames := 0, cells := 0, slots := 0, locals := 0 } : Room) #[(.ref c1), (.int (0 : Int32)), (.int (0 : Int32)), (.int q)] h0 (own_Q_rm6 Z c1 q h0 n0) := by
  refine MetFree.of_bodySF (plainFor_of_name own_pn0) hisR ?_
  intro p e s m args below meth c s₁ Bd hml0 hP hK
  obtain ⟨rfl, hZ, hh⟩ := hP
  have hx := Bd.exec
  have hby := Bd.bytes
  have hml : c.maxLocals = 8 := hml0
  have hown : s.vm.findClass "java/util/Arrays" = some m.cls := findClass_of_methodNamed Bd.named
  have hnm := (name_of_methodNamed Bd.named Bd.method).1
  have hlk : meth.locks = false := Bd.notSynchronized
  have X0 : Stand p l e ({ frames := 0, cells := 0, slots := 0, locals := 0 } : Room) s m #[(.ref c1), (.int (0 : Int32)), (.int (0 : Int32)), (.int q)] below meth c s₁ [] 0 0 := Stand.of_body Bd
  have e0 : s₁.heap = h0 := by rw [← hh, Bd.state]; rfl
  have N0 := Fr.nil n0
  refine OGo.enter (P := OPost s (own_Q_rm6 Z c1 q h0 n0) 0 0) (own_ef_rm6 m c1 (0 : Int32) (0 : Int32) q) ?_
  show OGo p.tables e below _ (s₁.setTop (mkF m 0 #[.val (.ref c1), .val (.int (0 : Int32)), .val (.int (0 : Int32)), .val (.int q), .unset, .unset, .unset, .unset] []))
  refine OGo.st (fun _ k_ => XS.iloadN X0.here hx rfl (hb hby own_d_jdk_65_method_59_code_0) rfl k_) ?_
  show OGo p.tables e below _ (s₁.setTop (mkF m 1 #[.val (.ref c1), .val (.int (0 : Int32)), .val (.int (0 : Int32)), .val (.int q), .unset, .unset, .unset, .unset] [(.int (0 : Int32))]))
  refine OGo.st (fun _ k_ => XS.istore X0.here hx rfl (hb hby own_d_jdk_65_method_59_code_1) rfl (l' := #[.val (.ref c1), .val (.int (0 : Int32)), .val (.int (0 : Int32)), .val (.int q), .val (.int (0 : Int32)), .unset, .unset, .unset]) rfl k_) ?_
  show OGo p.tables e below _ (s₁.setTop (mkF m 3 #[.val (.ref c1), .val (.int (0 : Int32)), .val (.int (0 : Int32)), .val (.int q), .val (.int (0 : Int32)), .unset, .unset, .unset] []))
  refine OGo.st (fun _ k_ => XS.iloadN X0.here hx rfl (hb hby own_d_jdk_65_method_59_code_3) rfl k_) ?_
  show OGo p.tables e below _ (s₁.setTop (mkF m 4 #[.val (.ref c1), .val (.int (0 : Int32)), .val (.int (0 : Int32)), .val (.int q), .val (.int (0 : Int32)), .unset, .unset, .unset] [(.int (0 : Int32))]))
  refine OGo.st (fun _ k_ => XS.iconst X0.here hx rfl (hb hby own_d_jdk_65_method_59_code_4) k_) ?_
  show OGo p.tables e below _ (s₁.setTop (mkF m 5 #[.val (.ref c1), .val (.int (0 : Int32)), .val (.int (0 : Int32)), .val (.int q), .val (.int (0 : Int32)), .unset, .unset, .unset] [(.int (1 : Int32)), (.int (0 : Int32))]))
  refine OGo.st (fun _ k_ => XS.isub X0.here hx rfl (hb hby own_d_jdk_65_method_59_code_5) rfl k_) ?_
  show OGo p.tables e below _ (s₁.setTop (mkF m 6 #[.val (.ref c1), .val (.int (0 : Int32)), .val (.int (0 : Int32)), .val (.int q), .val (.int (0 : Int32)), .unset, .unset, .unset] [(.int (-1 : Int32))]))
  refine OGo.st (fun _ k_ => XS.istore X0.here hx rfl (hb hby own_d_jdk_65_method_59_code_6) rfl (l' := #[.val (.ref c1), .val (.int (0 : Int32)), .val (.int (0 : Int32)), .val (.int q), .val (.int (0 : Int32)), .val (.int (-1 : Int32)), .unset, .unset]) rfl k_) ?_
  show OGo p.tables e below _ (s₁.setTop (mkF m 8 #[.val (.ref c1), .val (.int (0 : Int32)), .val (.int (0 : Int32)), .val (.int q), .val (.int (0 : Int32)), .val (.int (-1 : Int32)), .unset, .unset] []))
  refine OGo.st (fun _ k_ => XS.iload X0.here hx rfl (hb hby own_d_jdk_65_method_59_code_8) rfl k_) ?_
  show OGo p.tables e below _ (s₁.setTop (mkF m 10 #[.val (.ref c1), .val (.int (0 : Int32)), .val (.int (0 : Int32)), .val (.int q), .val (.int (0 : Int32)), .val (.int (-1 : Int32)), .unset, .unset] [(.int (0 : Int32))]))
  refine OGo.st (fun _ k_ => XS.iload X0.here hx rfl (hb hby own_d_jdk_65_method_59_code_10) rfl k_) ?_
  show OGo p.tables e below _ (s₁.setTop (mkF m 12 #[.val (.ref c1), .val (.int (0 : Int32)), .val (.int (0 : Int32)), .val (.int q), .val (.int (0 : Int32)), .val (.int (-1 : Int32)), .unset, .unset] [(.int (-1 : Int32)), (.int (0 : Int32))]))
  refine OGo.st (fun _ k_ => XS.icmpYes X0.here hx rfl (pc0 := 12) (pc' := 66) rfl (hb hby own_d_jdk_65_method_59_code_12) rfl (XT.ii_gt_t (by decide)) (by decide) (by decide) k_) ?_
  show OGo p.tables e below _ (s₁.setTop (mkF m 66 #[.val (.ref c1), .val (.int (0 : Int32)), .val (.int (0 : Int32)), .val (.int q), .val (.int (0 : Int32)), .val (.int (-1 : Int32)), .unset, .unset] []))
  refine OGo.st (fun _ k_ => XS.iload X0.here hx rfl (hb hby own_d_jdk_65_method_59_code_66) rfl k_) ?_
  show OGo p.tables e below _ (s₁.setTop (mkF m 68 #[.val (.ref c1), .val (.int (0 : Int32)), .val (.int (0 : Int32)), .val (.int q), .val (.int (0 : Int32)), .val (.int (-1 : Int32)), .unset, .unset] [(.int (0 : Int32))]))
  refine OGo.st (fun _ k_ => XS.iconst X0.here hx rfl (hb hby own_d_jdk_65_method_59_code_68) k_) ?_
  show OGo p.tables e below _ (s₁.setTop (mkF m 69 #[.val (.ref c1), .val (.int (0 : Int32)), .val (.int (0 : Int32)), .val (.int q), .val (.int (0 : Int32)), .val (.int (-1 : Int32)), .unset, .unset] [(.int (1 : Int32)), (.int (0 : Int32))]))
  refine OGo.st (fun _ k_ => XS.iadd X0.here hx rfl (hb hby own_d_jdk_65_method_59_code_69) rfl k_) ?_
  show OGo p.tables e below _ (s₁.setTop (mkF m 70 #[.val (.ref c1), .val (.int (0 : Int32)), .val (.int (0 : Int32)), .val (.int q), .val (.int (0 : Int32)), .val (.int (-1 : Int32)), .unset, .unset] [(.int (1 : Int32))]))
  refine OGo.st (fun _ k_ => XS.ineg X0.here hx rfl (hb hby own_d_jdk_65_method_59_code_70) rfl k_) ?_
  show OGo p.tables e below _ (s₁.setTop (mkF m 71 #[.val (.ref c1), .val (.int (0 : Int32)), .val (.int (0 : Int32)), .val (.int q), .val (.int (0 : Int32)), .val (.int (-1 : Int32)), .unset, .unset] [(.int (-1 : Int32))]))
  refine OGo.fin X0 (v := some (.int (-1 : Int32))) (fun h => by rw [Bd.returns] at h; cases h) hlk (fun fs hr => X0.ireturnOut hx Bd.returns rfl (Or.inl rfl) (hb hby own_d_jdk_65_method_59_code_71) hr) ?_ (by decide) (by decide)
  show own_Q_rm6 Z c1 q h0 n0 _ s₁.heap _
  rw [e0]
  exact ⟨rfl, N0, rfl⟩
theorem own_d_jdk_65_method_57_code_0 : decode jdk_65_method_57_code 0 = .ok (.aload_n 0, 1) := by decide +kernel
theorem own_d_jdk_65_method_57_code_1 : decode jdk_65_method_57_code 1 = .ok (.iconst 0, 1) := by decide +kernel
theorem own_d_jdk_65_method_57_code_2 : decode jdk_65_method_57_code 2 = .ok (.aload_n 0, 1) := by decide +kernel
theorem own_d_jdk_65_method_57_code_3 : decode jdk_65_method_57_code 3 = .ok (.arraylength, 1) := by decide +kernel
theorem own_d_jdk_65_method_57_code_4 : decode jdk_65_method_57_code 4 = .ok (.iload_n 1, 1) := by decide +kernel
theorem own_d_jdk_65_method_57_code_5 : decode jdk_65_method_57_code 5 = .ok (.invokestatic 209, 3) := by decide +kernel
theorem own_pd3 : parseMethodDescriptor "([IIII)I" = some ⟨[(.array .int), .int, .int, .int], some .int⟩ := by decide +kernel
theorem own_d_jdk_65_method_57_code_8 : decode jdk_65_method_57_code 8 = .ok (.ireturn, 1) := by decide +kernel
theorem own_ef_rm7 (m : MethodId) (x0 : Addr) (x1 : Int32) : entryFrame m #[(.ref x0), (.int x1)] 2 = mkF m 0 #[.val (.ref x0), .val (.int x1)] [] := by first | (simp [entryFrame, mkF, argsToLocals, Value.category]; done) | rfl
def own_Q_rm7 (Z : State) (c1 : Addr) (q : Int32) (k1 : ClassId) (d0 d1 d2 : Int32) (r : Int32) (h0 : Heap) (n0 : Nat) (v : Option Value) (h : Heap) (L : List Loc) : Prop := v = some (.int r) ∧ Fr n0 L ∧ h = h0
set_option maxRecDepth 65536 in
set_option maxHeartbeats 40000000 in
theorem rm7 (l : Launch) (Z : State) (a0 : Array Value) (hw : ∀ d ∈ tables_1, d.before a0 Z = true) (ws : List Jvm.Cond) (c1 : Addr) (q : Int32) (k1 : ClassId) (d0 d1 d2 : Int32) (r : Int32) (h0 : Heap) (n0 : Nat) (Z0 : n0 ≤ h0.size) (A_c1 : Arf Z h0 c1 k1 .int 3 (own_P (own_3 d0 d1 d2))) (hr : own_bs d0 d1 d2 q = r) :
    OMet l Z (⟨"java/util/Arrays", "binarySearch", "([II)I"⟩ : MethodName) jdk_65_method_57_code 2 (some .int) ws ({ frames := 1, cells := 0, slots := 0, locals := 19 } : Room) #[(.ref c1), (.int q)] h0 (own_Q_rm7 Z c1 q k1 d0 d1 d2 r h0 n0) := by
  refine MetFree.of_bodySF (plainFor_of_name own_pn0) hisR ?_
  intro p e s m args below meth c s₁ Bd hml0 hP hK
  obtain ⟨rfl, hZ, hh⟩ := hP
  have hx := Bd.exec
  have hby := Bd.bytes
  have hml : c.maxLocals = 2 := hml0
  have hown : s.vm.findClass "java/util/Arrays" = some m.cls := findClass_of_methodNamed Bd.named
  have hnm := (name_of_methodNamed Bd.named Bd.method).1
  have hlk : meth.locks = false := Bd.notSynchronized
  have X0 : Stand p l e ({ frames := 1, cells := 0, slots := 0, locals := 19 } : Room) s m #[(.ref c1), (.int q)] below meth c s₁ [] 0 0 := Stand.of_body Bd
  have e0 : s₁.heap = h0 := by rw [← hh, Bd.state]; rfl
  have N0 := Fr.nil n0
  refine OGo.enter (P := OPost s (own_Q_rm7 Z c1 q k1 d0 d1 d2 r h0 n0) 0 0) (own_ef_rm7 m c1 q) ?_
  show OGo p.tables e below _ (s₁.setTop (mkF m 0 #[.val (.ref c1), .val (.int q)] []))
  refine OGo.st (fun _ k_ => XS.aloadN X0.here hx rfl (hb hby own_d_jdk_65_method_57_code_0) rfl rfl k_) ?_
  show OGo p.tables e below _ (s₁.setTop (mkF m 1 #[.val (.ref c1), .val (.int q)] [(.ref c1)]))
  refine OGo.st (fun _ k_ => XS.iconst X0.here hx rfl (hb hby own_d_jdk_65_method_57_code_1) k_) ?_
  show OGo p.tables e below _ (s₁.setTop (mkF m 2 #[.val (.ref c1), .val (.int q)] [(.int (0 : Int32)), (.ref c1)]))
  refine OGo.st (fun _ k_ => XS.aloadN X0.here hx rfl (hb hby own_d_jdk_65_method_57_code_2) rfl rfl k_) ?_
  show OGo p.tables e below _ (s₁.setTop (mkF m 3 #[.val (.ref c1), .val (.int q)] [(.ref c1), (.int (0 : Int32)), (.ref c1)]))
  have qz1 := own_alen X0 hx hZ e0 A_c1 (g := (mkF m 3 #[.val (.ref c1), .val (.int q)] [(.ref c1), (.int (0 : Int32)), (.ref c1)])) rfl rfl (hb hby own_d_jdk_65_method_57_code_3)
  refine OGo.st qz1 ?_
  show OGo p.tables e below _ (s₁.setTop (mkF m 4 #[.val (.ref c1), .val (.int q)] [(.int (3 : Int32)), (.int (0 : Int32)), (.ref c1)]))
  refine OGo.st (fun _ k_ => XS.iloadN X0.here hx rfl (hb hby own_d_jdk_65_method_57_code_4) rfl k_) ?_
  show OGo p.tables e below _ (s₁.setTop (mkF m 5 #[.val (.ref c1), .val (.int q)] [(.int q), (.int (3 : Int32)), (.int (0 : Int32)), (.ref c1)]))
  obtain ⟨_, _, ⟨T2, Lz2, kz2, nz2⟩, -, X2, ⟨Lc2, hQ2, lz2, yz2, zz2⟩, st2⟩ := Jvm.LawKit.callS X0 hx (y := (⟨"java/util/Arrays", "binarySearch0", "([IIII)I"⟩ : MethodName)) hown (mvT hZ (hw _ (List.mem_of_getElem? (i := 26) rfl))) (mvT hZ (hw _ (List.mem_of_getElem? (i := 27) rfl))) (mvT hZ (hw _ (List.mem_of_getElem? (i := 24) rfl))) (mvT hZ (hw _ (List.mem_of_getElem? (i := 28) rfl))) (by decide) (backOf (W := 0) (rm5 l Z a0 hw [] c1 q k1 d0 d1 d2 r h0 n0 (Nat.le_trans Z0 (Keep.refl h0 []).1) A_c1 hr) hZ (hw _ (List.mem_of_getElem? (i := 28) rfl)) (hw _ (List.mem_of_getElem? (i := 24) rfl)) (by decide) (by decide)) (g := (mkF m 5 #[.val (.ref c1), .val (.int q)] [(.int q), (.int (3 : Int32)), (.int (0 : Int32)), (.ref c1)])) rfl (by rw [hml]; rfl) (argsL := [(.ref c1), (.int (0 : Int32)), (.int (3 : Int32)), (.int q)]) (rest := []) (lenOf own_pd3 rfl) rfl (by show 2 * 0 + _ ≤ _; exact Nat.le_of_eq rfl) (hb hby own_d_jdk_65_method_57_code_5) (fun _ _ => ⟨rfl, e0, (by decide : 0 + 0 ≤ _), (by decide : 0 + 0 ≤ _)⟩)
  dsimp only [Pt.U, Pt.locs, Pt.cells, Pt.slots] at X2 lz2 yz2 zz2 st2 hQ2
  have X2 := own_reb X2 lz2 yz2 zz2
  have X2 : Stand p l e ({ frames := 1, cells := 0, slots := 0, locals := 19 } : Room) s m #[(.ref c1), (.int q)] below meth c T2 _ 0 0 := X2
  obtain ⟨hvq2, Nq2, ez2⟩ := hQ2
  rw [hvq2] at st2
  have N2 := Fr.app N0 Nq2
  refine OGo.st st2 ?_
  show OGo p.tables e below _ (T2.setTop (mkF m 8 #[.val (.ref c1), .val (.int q)] [(.int r)]))
  refine OGo.fin X2 (v := some (.int r)) (fun h => by rw [Bd.returns] at h; cases h) hlk (fun fs hr => X2.ireturnOut hx Bd.returns rfl (Or.inl rfl) (hb hby own_d_jdk_65_method_57_code_8) hr) ?_ (by decide) (by decide)
  show own_Q_rm7 Z c1 q k1 d0 d1 d2 r h0 n0 _ T2.heap _
  rw [ez2]
  exact ⟨rfl, N2, rfl⟩
theorem own_ef_rm8 (m : MethodId) (x0 : Addr) (x1 : Int32) : entryFrame m #[(.ref x0), (.int x1)] 2 = mkF m 0 #[.val (.ref x0), .val (.int x1)] [] := by first | (simp [entryFrame, mkF, argsToLocals, Value.category]; done) | rfl
def own_Q_rm8 (Z : State) (c1 : Addr) (q : Int32) (k1 : ClassId) (f : Nat → Value) (h0 : Heap) (n0 : Nat) (v : Option Value) (h : Heap) (L : List Loc) : Prop := v = some (.int (-1)) ∧ Fr n0 L ∧ h = h0
set_option maxRecDepth 65536 in
set_option maxHeartbeats 40000000 in
theorem rm8 (l : Launch) (Z : State) (a0 : Array Value) (hw : ∀ d ∈ tables_1, d.before a0 Z = true) (ws : List Jvm.Cond) (c1 : Addr) (q : Int32) (k1 : ClassId) (f : Nat → Value) (h0 : Heap) (n0 : Nat) (Z0 : n0 ≤ h0.size) (A_c1 : Arf Z h0 c1 k1 .int 0 f) :
    OMet l Z (⟨"java/util/Arrays", "binarySearch", "([II)I"⟩ : MethodName) jdk_65_method_57_code 2 (some .int) ws ({ frames := 1, cells := 0, slots := 0, locals := 19 } : Room) #[(.ref c1), (.int q)] h0 (own_Q_rm8 Z c1 q k1 f h0 n0) := by
  refine MetFree.of_bodySF (plainFor_of_name own_pn0) hisR ?_
  intro p e s m args below meth c s₁ Bd hml0 hP hK
  obtain ⟨rfl, hZ, hh⟩ := hP
  have hx := Bd.exec
  have hby := Bd.bytes
  have hml : c.maxLocals = 2 := hml0
  have hown : s.vm.findClass "java/util/Arrays" = some m.cls := findClass_of_methodNamed Bd.named
  have hnm := (name_of_methodNamed Bd.named Bd.method).1
  have hlk : meth.locks = false := Bd.notSynchronized
  have X0 : Stand p l e ({ frames := 1, cells := 0, slots := 0, locals := 19 } : Room) s m #[(.ref c1), (.int q)] below meth c s₁ [] 0 0 := Stand.of_body Bd
  have e0 : s₁.heap = h0 := by rw [← hh, Bd.state]; rfl
  have N0 := Fr.nil n0
  refine OGo.enter (P := OPost s (own_Q_rm8 Z c1 q k1 f h0 n0) 0 0) (own_ef_rm8 m c1 q) ?_
  show OGo p.tables e below _ (s₁.setTop (mkF m 0 #[.val (.ref c1), .val (.int q)] []))
  refine OGo.st (fun _ k_ => XS.aloadN X0.here hx rfl (hb hby own_d_jdk_65_method_57_code_0) rfl rfl k_) ?_
  show OGo p.tables e below _ (s₁.setTop (mkF m 1 #[.val (.ref c1), .val (.int q)] [(.ref c1)]))
  refine OGo.st (fun _ k_ => XS.iconst X0.here hx rfl (hb hby own_d_jdk_65_method_57_code_1) k_) ?_
  show OGo p.tables e below _ (s₁.setTop (mkF m 2 #[.val (.ref c1), .val (.int q)] [(.int (0 : Int32)), (.ref c1)]))
  refine OGo.st (fun _ k_ => XS.aloadN X0.here hx rfl (hb hby own_d_jdk_65_method_57_code_2) rfl rfl k_) ?_
  show OGo p.tables e below _ (s₁.setTop (mkF m 3 #[.val (.ref c1), .val (.int q)] [(.ref c1), (.int (0 : Int32)), (.ref c1)]))
  have qz1 := own_alen X0 hx hZ e0 A_c1 (g := (mkF m 3 #[.val (.ref c1), .val (.int q)] [(.ref c1), (.int (0 : Int32)), (.ref c1)])) rfl rfl (hb hby own_d_jdk_65_method_57_code_3)
  refine OGo.st qz1 ?_
  show OGo p.tables e below _ (s₁.setTop (mkF m 4 #[.val (.ref c1), .val (.int q)] [(.int (0 : Int32)), (.int (0 : Int32)), (.ref c1)]))
  refine OGo.st (fun _ k_ => XS.iloadN X0.here hx rfl (hb hby own_d_jdk_65_method_57_code_4) rfl k_) ?_
  show OGo p.tables e below _ (s₁.setTop (mkF m 5 #[.val (.ref c1), .val (.int q)] [(.int q), (.int (0 : Int32)), (.int (0 : Int32)), (.ref c1)]))
  obtain ⟨_, _, ⟨T2, Lz2, kz2, nz2⟩, -, X2, ⟨Lc2, hQ2, lz2, yz2, zz2⟩, st2⟩ := Jvm.LawKit.callS X0 hx (y := (⟨"java/util/Arrays", "binarySearch0", "([IIII)I"⟩ : MethodName)) hown (mvT hZ (hw _ (List.mem_of_getElem? (i := 26) rfl))) (mvT hZ (hw _ (List.mem_of_getElem? (i := 27) rfl))) (mvT hZ (hw _ (List.mem_of_getElem? (i := 24) rfl))) (mvT hZ (hw _ (List.mem_of_getElem? (i := 28) rfl))) (by decide) (backOf (W := 0) (rm6 l Z a0 hw [] c1 q h0 n0 (Nat.le_trans Z0 (Keep.refl h0 []).1) ) hZ (hw _ (List.mem_of_getElem? (i := 28) rfl)) (hw _ (List.mem_of_getElem? (i := 24) rfl)) (by decide) (by decide)) (g := (mkF m 5 #[.val (.ref c1), .val (.int q)] [(.int q), (.int (0 : Int32)), (.int (0 : Int32)), (.ref c1)])) rfl (by rw [hml]; rfl) (argsL := [(.ref c1), (.int (0 : Int32)), (.int (0 : Int32)), (.int q)]) (rest := []) (lenOf own_pd3 rfl) rfl (by show 2 * 0 + _ ≤ _; exact Nat.le_of_eq rfl) (hb hby own_d_jdk_65_method_57_code_5) (fun _ _ => ⟨rfl, e0, (by decide : 0 + 0 ≤ _), (by decide : 0 + 0 ≤ _)⟩)
  dsimp only [Pt.U, Pt.locs, Pt.cells, Pt.slots] at X2 lz2 yz2 zz2 st2 hQ2
  have X2 := own_reb X2 lz2 yz2 zz2
  have X2 : Stand p l e ({ frames := 1, cells := 0, slots := 0, locals := 19 } : Room) s m #[(.ref c1), (.int q)] below meth c T2 _ 0 0 := X2
  obtain ⟨hvq2, Nq2, ez2⟩ := hQ2
  rw [hvq2] at st2
  have N2 := Fr.app N0 Nq2
  refine OGo.st st2 ?_
  show OGo p.tables e below _ (T2.setTop (mkF m 8 #[.val (.ref c1), .val (.int q)] [(.int (-1 : Int32))]))
  refine OGo.fin X2 (v := some (.int (-1 : Int32))) (fun h => by rw [Bd.returns] at h; cases h) hlk (fun fs hr => X2.ireturnOut hx Bd.returns rfl (Or.inl rfl) (hb hby own_d_jdk_65_method_57_code_8) hr) ?_ (by decide) (by decide)
  show own_Q_rm8 Z c1 q k1 f h0 n0 _ T2.heap _
  rw [ez2]
  exact ⟨rfl, N2, rfl⟩
theorem own_d_prog_51_method_1_code_0 : decode prog_51_method_1_code 0 = .ok (.aload_n 0, 1) := by decide +kernel
theorem own_d_prog_51_method_1_code_1 : decode prog_51_method_1_code 1 = .ok (.invokespecial 1, 3) := by decide +kernel
theorem own_d_prog_51_method_1_code_4 : decode prog_51_method_1_code 4 = .ok (.aload_n 0, 1) := by decide +kernel
theorem own_d_prog_51_method_1_code_5 : decode prog_51_method_1_code 5 = .ok (.aload_n 1, 1) := by decide +kernel
theorem own_d_prog_51_method_1_code_6 : decode prog_51_method_1_code 6 = .ok (.putfield 7, 3) := by decide +kernel
theorem own_d_prog_51_method_1_code_9 : decode prog_51_method_1_code 9 = .ok (.aload_n 0, 1) := by decide +kernel
theorem own_d_prog_51_method_1_code_10 : decode prog_51_method_1_code 10 = .ok (.aload_n 2, 1) := by decide +kernel
theorem own_d_prog_51_method_1_code_11 : decode prog_51_method_1_code 11 = .ok (.putfield 13, 3) := by decide +kernel
theorem own_d_prog_51_method_1_code_14 : decode prog_51_method_1_code 14 = .ok (.aload_n 0, 1) := by decide +kernel
theorem own_d_prog_51_method_1_code_15 : decode prog_51_method_1_code 15 = .ok (.aload_n 3, 1) := by decide +kernel
theorem own_d_prog_51_method_1_code_16 : decode prog_51_method_1_code 16 = .ok (.putfield 16, 3) := by decide +kernel
theorem own_d_prog_51_method_1_code_19 : decode prog_51_method_1_code 19 = .ok (.return_, 1) := by decide +kernel
theorem own_pn1 : plainName "com/example/cari/cari/index/Positions" = true := by first | (simp [plainName, overriddenIn]; done) | decide +kernel
theorem own_ef_rm9 (m : MethodId) (x0 : Addr) (x1 : Addr) (x2 : Addr) (x3 : Addr) : entryFrame m #[(.ref x0), (.ref x1), (.ref x2), (.ref x3)] 4 = mkF m 0 #[.val (.ref x0), .val (.ref x1), .val (.ref x2), .val (.ref x3)] [] := by first | (simp [entryFrame, mkF, argsToLocals, Value.category]; done) | rfl
def own_Q_rm9 (Z : State) (a1 c1 c2 c3 : Addr) (h0 : Heap) (n0 : Nat) (v : Option Value) (h : Heap) (L : List Loc) : Prop := v = none ∧ Fr n0 L ∧ Keep h0 h [a1] ∧ Fld Z h a1 "com/example/cari/cari/index/Positions" "documents" "[I" (.ref c1) ∧ Fld Z h a1 "com/example/cari/cari/index/Positions" "starts" "[I" (.ref c2) ∧ Fld Z h a1 "com/example/cari/cari/index/Positions" "positions" "[I" (.ref c3)
set_option maxRecDepth 65536 in
set_option maxHeartbeats 40000000 in
theorem rm9 (l : Launch) (Z : State) (a0 : Array Value) (hw : ∀ d ∈ tables_1, d.before a0 Z = true) (ws : List Jvm.Cond) (a1 c1 c2 c3 : Addr) (h0 : Heap) (n0 : Nat) (Z0 : n0 ≤ h0.size) (E_a1 : Exa Z h0 a1 "com/example/cari/cari/index/Positions") (F_documents_a1 : Fld Z h0 a1 "com/example/cari/cari/index/Positions" "documents" "[I" .null) (F_starts_a1 : Fld Z h0 a1 "com/example/cari/cari/index/Positions" "starts" "[I" .null) (F_positions_a1 : Fld Z h0 a1 "com/example/cari/cari/index/Positions" "positions" "[I" .null) (g_a1 : n0 ≤ a1) :
    OMet l Z (⟨"com/example/cari/cari/index/Positions", "<init>", "([I[I[I)V"⟩ : MethodName) prog_51_method_1_code 4 none ws ({ frames := 1, cells := 0, slots := 0, locals := 12 } : Room) #[(.ref a1), (.ref c1), (.ref c2), (.ref c3)] h0 (own_Q_rm9 Z a1 c1 c2 c3 h0 n0) := by
  refine MetFree.of_bodySF (plainFor_of_name own_pn1) hisR ?_
  intro p e s m args below meth c s₁ Bd hml0 hP hK
  obtain ⟨rfl, hZ, hh⟩ := hP
  have hx := Bd.exec
  have hby := Bd.bytes
  have hml : c.maxLocals = 4 := hml0
  have hown : s.vm.findClass "com/example/cari/cari/index/Positions" = some m.cls := findClass_of_methodNamed Bd.named
  have hnm := (name_of_methodNamed Bd.named Bd.method).1
  have hlk : meth.locks = false := Bd.notSynchronized
  have X0 : Stand p l e ({ frames := 1, cells := 0, slots := 0, locals := 12 } : Room) s m #[(.ref a1), (.ref c1), (.ref c2), (.ref c3)] below meth c s₁ [] 0 0 := Stand.of_body Bd
  have e0 : s₁.heap = h0 := by rw [← hh, Bd.state]; rfl
  have N0 := Fr.nil n0
  refine OGo.enter (P := OPost s (own_Q_rm9 Z a1 c1 c2 c3 h0 n0) 0 0) (own_ef_rm9 m a1 c1 c2 c3) ?_
  show OGo p.tables e below _ (s₁.setTop (mkF m 0 #[.val (.ref a1), .val (.ref c1), .val (.ref c2), .val (.ref c3)] []))
  refine OGo.st (fun _ k_ => XS.aloadN X0.here hx rfl (hb hby own_d_prog_51_method_1_code_0) rfl rfl k_) ?_
  show OGo p.tables e below _ (s₁.setTop (mkF m 1 #[.val (.ref a1), .val (.ref c1), .val (.ref c2), .val (.ref c3)] [(.ref a1)]))
  obtain ⟨T1, X1, ez1, st1⟩ := initO X0 hx hZ hown (hw _ (List.mem_of_getElem? (i := 8) rfl)) (hw _ (List.mem_of_getElem? (i := 9) rfl)) (hw _ (List.mem_of_getElem? (i := 10) rfl)) e0 (g := (mkF m 1 #[.val (.ref a1), .val (.ref c1), .val (.ref c2), .val (.ref c3)] [(.ref a1)])) rfl (by rw [hml]; rfl) rfl (hb hby own_d_prog_51_method_1_code_1) (by decide) (W := 0) (by show 2 * 0 + _ ≤ _; exact Nat.le_of_eq rfl) (by decide)
  refine OGo.st st1 ?_
  show OGo p.tables e below _ (T1.setTop (mkF m 4 #[.val (.ref a1), .val (.ref c1), .val (.ref c2), .val (.ref c3)] []))
  refine OGo.st (fun _ k_ => XS.aloadN X1.here hx rfl (hb hby own_d_prog_51_method_1_code_4) rfl rfl k_) ?_
  show OGo p.tables e below _ (T1.setTop (mkF m 5 #[.val (.ref a1), .val (.ref c1), .val (.ref c2), .val (.ref c3)] [(.ref a1)]))
  refine OGo.st (fun _ k_ => XS.aloadN X1.here hx rfl (hb hby own_d_prog_51_method_1_code_5) rfl rfl k_) ?_
  show OGo p.tables e below _ (T1.setTop (mkF m 6 #[.val (.ref a1), .val (.ref c1), .val (.ref c2), .val (.ref c3)] [(.ref c1), (.ref a1)]))
  obtain ⟨T2, hz2, X2, ez2, W2, st2⟩ := putF X1 hx hZ hown (host := "") (Or.inl (hw _ (List.mem_of_getElem? (i := 11) rfl))) Via.refl ez1 F_documents_a1 E_a1 (Or.inr ⟨(hw _ (List.mem_of_getElem? (i := 12) rfl)), rfl, hnm⟩) (hw _ (List.mem_of_getElem? (i := 3) rfl)) (ty := (.array .int)) (by decide) rfl rfl (g := (mkF m 6 #[.val (.ref a1), .val (.ref c1), .val (.ref c2), .val (.ref c3)] [(.ref c1), (.ref a1)])) rfl rfl (hb hby own_d_prog_51_method_1_code_6)
  have Fw2 : Fld Z hz2 a1 "com/example/cari/cari/index/Positions" "documents" "[I" (.ref c1) := F_documents_a1.same W2
  have Ex_3 := E_a1.wr W2
  have F_4 := F_starts_a1.other W2 (Or.inr (slot_ne (Or.inr (hw _ (List.mem_of_getElem? (i := 14) rfl))) (Or.inr (hw _ (List.mem_of_getElem? (i := 12) rfl))) (by decide) (t := (.array .int)) (t' := (.array .int)) (by decide) (by decide)))
  have F_5 := F_positions_a1.other W2 (Or.inr (slot_ne (Or.inr (hw _ (List.mem_of_getElem? (i := 16) rfl))) (Or.inr (hw _ (List.mem_of_getElem? (i := 12) rfl))) (by decide) (t := (.array .int)) (t' := (.array .int)) (by decide) (by decide)))
  have N2 := Fr.snoc X2 N0 g_a1
  have K_6 : Keep h0 hz2 [a1] := (Keep.refl h0 [a1]).wr W2 (Or.inl (List.mem_of_getElem? (i := 0) rfl))
  refine OGo.st st2 ?_
  show OGo p.tables e below _ (T2.setTop (mkF m 9 #[.val (.ref a1), .val (.ref c1), .val (.ref c2), .val (.ref c3)] []))
  refine OGo.st (fun _ k_ => XS.aloadN X2.here hx rfl (hb hby own_d_prog_51_method_1_code_9) rfl rfl k_) ?_
  show OGo p.tables e below _ (T2.setTop (mkF m 10 #[.val (.ref a1), .val (.ref c1), .val (.ref c2), .val (.ref c3)] [(.ref a1)]))
  refine OGo.st (fun _ k_ => XS.aloadN X2.here hx rfl (hb hby own_d_prog_51_method_1_code_10) rfl rfl k_) ?_
  show OGo p.tables e below _ (T2.setTop (mkF m 11 #[.val (.ref a1), .val (.ref c1), .val (.ref c2), .val (.ref c3)] [(.ref c2), (.ref a1)]))
  obtain ⟨T7, hz7, X7, ez7, W7, st7⟩ := putF X2 hx hZ hown (host := "") (Or.inl (hw _ (List.mem_of_getElem? (i := 13) rfl))) Via.refl ez2 F_4 Ex_3 (Or.inr ⟨(hw _ (List.mem_of_getElem? (i := 14) rfl)), rfl, hnm⟩) (hw _ (List.mem_of_getElem? (i := 3) rfl)) (ty := (.array .int)) (by decide) rfl rfl (g := (mkF m 11 #[.val (.ref a1), .val (.ref c1), .val (.ref c2), .val (.ref c3)] [(.ref c2), (.ref a1)])) rfl rfl (hb hby own_d_prog_51_method_1_code_11)
  have Fw7 : Fld Z hz7 a1 "com/example/cari/cari/index/Positions" "starts" "[I" (.ref c2) := F_4.same W7
  have Ex_8 := Ex_3.wr W7
  have F_9 := F_5.other W7 (Or.inr (slot_ne (Or.inr (hw _ (List.mem_of_getElem? (i := 16) rfl))) (Or.inr (hw _ (List.mem_of_getElem? (i := 14) rfl))) (by decide) (t := (.array .int)) (t' := (.array .int)) (by decide) (by decide)))
  have F_10 := Fw2.other W7 (Or.inr (slot_ne (Or.inr (hw _ (List.mem_of_getElem? (i := 12) rfl))) (Or.inr (hw _ (List.mem_of_getElem? (i := 14) rfl))) (by decide) (t := (.array .int)) (t' := (.array .int)) (by decide) (by decide)))
  have N7 := Fr.snoc X7 N2 g_a1
  have K_11 : Keep h0 hz7 [a1] := K_6.wr W7 (Or.inl (List.mem_of_getElem? (i := 0) rfl))
  refine OGo.st st7 ?_
  show OGo p.tables e below _ (T7.setTop (mkF m 14 #[.val (.ref a1), .val (.ref c1), .val (.ref c2), .val (.ref c3)] []))
  refine OGo.st (fun _ k_ => XS.aloadN X7.here hx rfl (hb hby own_d_prog_51_method_1_code_14) rfl rfl k_) ?_
  show OGo p.tables e below _ (T7.setTop (mkF m 15 #[.val (.ref a1), .val (.ref c1), .val (.ref c2), .val (.ref c3)] [(.ref a1)]))
  refine OGo.st (fun _ k_ => XS.aloadN X7.here hx rfl (hb hby own_d_prog_51_method_1_code_15) rfl rfl k_) ?_
  show OGo p.tables e below _ (T7.setTop (mkF m 16 #[.val (.ref a1), .val (.ref c1), .val (.ref c2), .val (.ref c3)] [(.ref c3), (.ref a1)]))
  obtain ⟨T12, hz12, X12, ez12, W12, st12⟩ := putF X7 hx hZ hown (host := "") (Or.inl (hw _ (List.mem_of_getElem? (i := 15) rfl))) Via.refl ez7 F_9 Ex_8 (Or.inr ⟨(hw _ (List.mem_of_getElem? (i := 16) rfl)), rfl, hnm⟩) (hw _ (List.mem_of_getElem? (i := 3) rfl)) (ty := (.array .int)) (by decide) rfl rfl (g := (mkF m 16 #[.val (.ref a1), .val (.ref c1), .val (.ref c2), .val (.ref c3)] [(.ref c3), (.ref a1)])) rfl rfl (hb hby own_d_prog_51_method_1_code_16)
  have Fw12 : Fld Z hz12 a1 "com/example/cari/cari/index/Positions" "positions" "[I" (.ref c3) := F_9.same W12
  have Ex_13 := Ex_8.wr W12
  have F_14 := F_10.other W12 (Or.inr (slot_ne (Or.inr (hw _ (List.mem_of_getElem? (i := 12) rfl))) (Or.inr (hw _ (List.mem_of_getElem? (i := 16) rfl))) (by decide) (t := (.array .int)) (t' := (.array .int)) (by decide) (by decide)))
  have F_15 := Fw7.other W12 (Or.inr (slot_ne (Or.inr (hw _ (List.mem_of_getElem? (i := 14) rfl))) (Or.inr (hw _ (List.mem_of_getElem? (i := 16) rfl))) (by decide) (t := (.array .int)) (t' := (.array .int)) (by decide) (by decide)))
  have N12 := Fr.snoc X12 N7 g_a1
  have K_16 : Keep h0 hz12 [a1] := K_11.wr W12 (Or.inl (List.mem_of_getElem? (i := 0) rfl))
  refine OGo.st st12 ?_
  show OGo p.tables e below _ (T12.setTop (mkF m 19 #[.val (.ref a1), .val (.ref c1), .val (.ref c2), .val (.ref c3)] []))
  refine OGo.fin X12 (v := none) (fun _ => rfl) hlk (fun fs hr => X12.returnOut hx Bd.returns (hb hby own_d_prog_51_method_1_code_19) hr) ?_ (by decide) (by decide)
  show own_Q_rm9 Z a1 c1 c2 c3 h0 n0 _ T12.heap _
  rw [ez12]
  exact ⟨rfl, N12, K_16, F_14, F_15, Fw12⟩
theorem own_d_prog_51_method_2_code_0 : decode prog_51_method_2_code 0 = .ok (.aload_n 0, 1) := by decide +kernel
theorem own_d_prog_51_method_2_code_1 : decode prog_51_method_2_code 1 = .ok (.getfield 7, 3) := by decide +kernel
theorem own_d_prog_51_method_2_code_4 : decode prog_51_method_2_code 4 = .ok (.iload_n 1, 1) := by decide +kernel
theorem own_d_prog_51_method_2_code_5 : decode prog_51_method_2_code 5 = .ok (.invokestatic 19, 3) := by decide +kernel
theorem own_pd4 : parseMethodDescriptor "([II)I" = some ⟨[(.array .int), .int], some .int⟩ := by decide +kernel
theorem own_d_prog_51_method_2_code_8 : decode prog_51_method_2_code 8 = .ok (.istore_n 2, 1) := by decide +kernel
theorem own_d_prog_51_method_2_code_9 : decode prog_51_method_2_code 9 = .ok (.iload_n 2, 1) := by decide +kernel
theorem own_d_prog_51_method_2_code_10 : decode prog_51_method_2_code 10 = .ok (.ifCond .ge 9, 3) := by decide +kernel
theorem own_d_prog_51_method_2_code_19 : decode prog_51_method_2_code 19 = .ok (.aload_n 0, 1) := by decide +kernel
theorem own_d_prog_51_method_2_code_20 : decode prog_51_method_2_code 20 = .ok (.getfield 16, 3) := by decide +kernel
theorem own_d_prog_51_method_2_code_23 : decode prog_51_method_2_code 23 = .ok (.aload_n 0, 1) := by decide +kernel
theorem own_d_prog_51_method_2_code_24 : decode prog_51_method_2_code 24 = .ok (.getfield 13, 3) := by decide +kernel
theorem own_d_prog_51_method_2_code_27 : decode prog_51_method_2_code 27 = .ok (.iload_n 2, 1) := by decide +kernel
theorem own_d_prog_51_method_2_code_28 : decode prog_51_method_2_code 28 = .ok (.iaload, 1) := by decide +kernel
theorem own_d_prog_51_method_2_code_29 : decode prog_51_method_2_code 29 = .ok (.aload_n 0, 1) := by decide +kernel
theorem own_d_prog_51_method_2_code_30 : decode prog_51_method_2_code 30 = .ok (.getfield 13, 3) := by decide +kernel
theorem own_d_prog_51_method_2_code_33 : decode prog_51_method_2_code 33 = .ok (.iload_n 2, 1) := by decide +kernel
theorem own_d_prog_51_method_2_code_34 : decode prog_51_method_2_code 34 = .ok (.iconst 1, 1) := by decide +kernel
theorem own_d_prog_51_method_2_code_35 : decode prog_51_method_2_code 35 = .ok (.iadd, 1) := by decide +kernel
theorem own_d_prog_51_method_2_code_36 : decode prog_51_method_2_code 36 = .ok (.iaload, 1) := by decide +kernel
theorem own_d_prog_51_method_2_code_37 : decode prog_51_method_2_code 37 = .ok (.invokestatic 25, 3) := by decide +kernel
theorem own_d_prog_51_method_2_code_40 : decode prog_51_method_2_code 40 = .ok (.areturn, 1) := by decide +kernel
theorem own_ef_rm10 (m : MethodId) (x0 : Addr) (x1 : Int32) : entryFrame m #[(.ref x0), (.int x1)] 3 = mkF m 0 #[.val (.ref x0), .val (.int x1), .unset] [] := by first | (simp [entryFrame, mkF, argsToLocals, Value.category]; done) | rfl
def own_Q_rm10 (Z : State) (a1 : Addr) (q : Int32) (c1 c2 c3 : Addr) (k1 k2 k3 : ClassId) (d0 d1 d2 s1 s2 s3 : Int32) (g : Nat → Int32) (h0 : Heap) (n0 : Nat) (v : Option Value) (h : Heap) (L : List Loc) : Prop := ∃ (r : Addr) (k : ClassId), v = some (.ref r) ∧ Fr n0 L ∧ Keep h0 h [] ∧ h0.size ≤ r ∧ Arf Z h r k .int (s1 - (0 : Int32)) (fun i => own_P g ((0 : Int32).toNatClampNeg + i))
set_option maxRecDepth 65536 in
set_option maxHeartbeats 40000000 in
theorem rm10 (l : Launch) (Z : State) (a0 : Array Value) (hw : ∀ d ∈ tables_1, d.before a0 Z = true) (ws : List Jvm.Cond) (a1 : Addr) (q : Int32) (c1 c2 c3 : Addr) (k1 k2 k3 : ClassId) (d0 d1 d2 s1 s2 s3 : Int32) (g : Nat → Int32) (h0 : Heap) (n0 : Nat) (Z0 : n0 ≤ h0.size) (F_documents_a1 : Fld Z h0 a1 "com/example/cari/cari/index/Positions" "documents" "[I" (.ref c1)) (F_starts_a1 : Fld Z h0 a1 "com/example/cari/cari/index/Positions" "starts" "[I" (.ref c2)) (F_positions_a1 : Fld Z h0 a1 "com/example/cari/cari/index/Positions" "positions" "[I" (.ref c3)) (A_c1 : Arf Z h0 c1 k1 .int 3 (own_P (own_3 d0 d1 d2))) (A_c2 : Arf Z h0 c2 k2 .int 4 (own_P (own_4 0 s1 s2 s3))) (A_c3 : Arf Z h0 c3 k3 .int 9 (own_P g)) (hbs : own_bs d0 d1 d2 q = 0) (ok : own_ok (0 : Int32) s1) :
    OMet l Z (⟨"com/example/cari/cari/index/Positions", "in", "(I)[I"⟩ : MethodName) prog_51_method_2_code 3 (some (.array .int)) ws ({ frames := 3, cells := 1, slots := 3, locals := 48 } : Room) #[(.ref a1), (.int q)] h0 (own_Q_rm10 Z a1 q c1 c2 c3 k1 k2 k3 d0 d1 d2 s1 s2 s3 g h0 n0) := by
  refine MetFree.of_bodySF (plainFor_of_name own_pn1) hisR ?_
  intro p e s m args below meth c s₁ Bd hml0 hP hK
  obtain ⟨rfl, hZ, hh⟩ := hP
  have hx := Bd.exec
  have hby := Bd.bytes
  have hml : c.maxLocals = 3 := hml0
  have hown : s.vm.findClass "com/example/cari/cari/index/Positions" = some m.cls := findClass_of_methodNamed Bd.named
  have hnm := (name_of_methodNamed Bd.named Bd.method).1
  have hlk : meth.locks = false := Bd.notSynchronized
  have X0 : Stand p l e ({ frames := 3, cells := 1, slots := 3, locals := 48 } : Room) s m #[(.ref a1), (.int q)] below meth c s₁ [] 0 0 := Stand.of_body Bd
  have e0 : s₁.heap = h0 := by rw [← hh, Bd.state]; rfl
  have N0 := Fr.nil n0
  refine OGo.enter (P := OPost s (own_Q_rm10 Z a1 q c1 c2 c3 k1 k2 k3 d0 d1 d2 s1 s2 s3 g h0 n0) 1 3) (own_ef_rm10 m a1 q) ?_
  show OGo p.tables e below _ (s₁.setTop (mkF m 0 #[.val (.ref a1), .val (.int q), .unset] []))
  refine OGo.st (fun _ k_ => XS.aloadN X0.here hx rfl (hb hby own_d_prog_51_method_2_code_0) rfl rfl k_) ?_
  show OGo p.tables e below _ (s₁.setTop (mkF m 1 #[.val (.ref a1), .val (.int q), .unset] [(.ref a1)]))
  obtain ⟨T1, X1, ez1, st1⟩ := getF X0 hx hZ hown (host := "") (Or.inl (hw _ (List.mem_of_getElem? (i := 11) rfl))) Via.refl e0 F_documents_a1 (g := (mkF m 1 #[.val (.ref a1), .val (.int q), .unset] [(.ref a1)])) rfl rfl (hb hby own_d_prog_51_method_2_code_1)
  refine OGo.st st1 ?_
  show OGo p.tables e below _ (T1.setTop (mkF m 4 #[.val (.ref a1), .val (.int q), .unset] [(.ref c1)]))
  refine OGo.st (fun _ k_ => XS.iloadN X1.here hx rfl (hb hby own_d_prog_51_method_2_code_4) rfl k_) ?_
  show OGo p.tables e below _ (T1.setTop (mkF m 5 #[.val (.ref a1), .val (.int q), .unset] [(.int q), (.ref c1)]))
  obtain ⟨_, _, ⟨T2, Lz2, kz2, nz2⟩, -, X2, ⟨Lc2, hQ2, lz2, yz2, zz2⟩, st2⟩ := Jvm.LawKit.callS X1 hx (y := (⟨"java/util/Arrays", "binarySearch", "([II)I"⟩ : MethodName)) hown (mvT hZ (hw _ (List.mem_of_getElem? (i := 22) rfl))) (mvT hZ (hw _ (List.mem_of_getElem? (i := 23) rfl))) (mvT hZ (hw _ (List.mem_of_getElem? (i := 24) rfl))) (mvT hZ (hw _ (List.mem_of_getElem? (i := 25) rfl))) (by decide) (backOf (W := 0) (rm7 l Z a0 hw [] c1 q k1 d0 d1 d2 (0 : Int32) h0 n0 (Nat.le_trans Z0 (Keep.refl h0 []).1) A_c1 hbs) hZ (hw _ (List.mem_of_getElem? (i := 25) rfl)) (hw _ (List.mem_of_getElem? (i := 24) rfl)) (by decide) (by decide)) (g := (mkF m 5 #[.val (.ref a1), .val (.int q), .unset] [(.int q), (.ref c1)])) rfl (by rw [hml]; rfl) (argsL := [(.ref c1), (.int q)]) (rest := []) (lenOf own_pd4 rfl) rfl (by show 2 * 0 + _ ≤ _; exact Nat.le_of_eq rfl) (hb hby own_d_prog_51_method_2_code_5) (fun _ _ => ⟨rfl, ez1, (by decide : 0 + 0 ≤ _), (by decide : 0 + 0 ≤ _)⟩)
  dsimp only [Pt.U, Pt.locs, Pt.cells, Pt.slots] at X2 lz2 yz2 zz2 st2 hQ2
  have X2 := own_reb X2 lz2 yz2 zz2
  have X2 : Stand p l e ({ frames := 3, cells := 1, slots := 3, locals := 48 } : Room) s m #[(.ref a1), (.int q)] below meth c T2 _ 0 0 := X2
  obtain ⟨hvq2, Nq2, ez2⟩ := hQ2
  rw [hvq2] at st2
  have N2 := Fr.app N0 Nq2
  refine OGo.st st2 ?_
  show OGo p.tables e below _ (T2.setTop (mkF m 8 #[.val (.ref a1), .val (.int q), .unset] [(.int (0 : Int32))]))
  refine OGo.st (fun _ k_ => XS.istoreN X2.here hx rfl (hb hby own_d_prog_51_method_2_code_8) rfl (l' := #[.val (.ref a1), .val (.int q), .val (.int (0 : Int32))]) rfl k_) ?_
  show OGo p.tables e below _ (T2.setTop (mkF m 9 #[.val (.ref a1), .val (.int q), .val (.int (0 : Int32))] []))
  refine OGo.st (fun _ k_ => XS.iloadN X2.here hx rfl (hb hby own_d_prog_51_method_2_code_9) rfl k_) ?_
  show OGo p.tables e below _ (T2.setTop (mkF m 10 #[.val (.ref a1), .val (.int q), .val (.int (0 : Int32))] [(.int (0 : Int32))]))
  refine OGo.st (fun _ k_ => XS.ifYes X2.here hx rfl (pc0 := 10) (pc' := 19) rfl (hb hby own_d_prog_51_method_2_code_10) rfl (XT.i0_ge_t (by decide)) (by decide) (by decide) k_) ?_
  show OGo p.tables e below _ (T2.setTop (mkF m 19 #[.val (.ref a1), .val (.int q), .val (.int (0 : Int32))] []))
  refine OGo.st (fun _ k_ => XS.aloadN X2.here hx rfl (hb hby own_d_prog_51_method_2_code_19) rfl rfl k_) ?_
  show OGo p.tables e below _ (T2.setTop (mkF m 20 #[.val (.ref a1), .val (.int q), .val (.int (0 : Int32))] [(.ref a1)]))
  obtain ⟨T3, X3, ez3, st3⟩ := getF X2 hx hZ hown (host := "") (Or.inl (hw _ (List.mem_of_getElem? (i := 15) rfl))) Via.refl ez2 F_positions_a1 (g := (mkF m 20 #[.val (.ref a1), .val (.int q), .val (.int (0 : Int32))] [(.ref a1)])) rfl rfl (hb hby own_d_prog_51_method_2_code_20)
  refine OGo.st st3 ?_
  show OGo p.tables e below _ (T3.setTop (mkF m 23 #[.val (.ref a1), .val (.int q), .val (.int (0 : Int32))] [(.ref c3)]))
  refine OGo.st (fun _ k_ => XS.aloadN X3.here hx rfl (hb hby own_d_prog_51_method_2_code_23) rfl rfl k_) ?_
  show OGo p.tables e below _ (T3.setTop (mkF m 24 #[.val (.ref a1), .val (.int q), .val (.int (0 : Int32))] [(.ref a1), (.ref c3)]))
  obtain ⟨T4, X4, ez4, st4⟩ := getF X3 hx hZ hown (host := "") (Or.inl (hw _ (List.mem_of_getElem? (i := 13) rfl))) Via.refl ez3 F_starts_a1 (g := (mkF m 24 #[.val (.ref a1), .val (.int q), .val (.int (0 : Int32))] [(.ref a1), (.ref c3)])) rfl rfl (hb hby own_d_prog_51_method_2_code_24)
  refine OGo.st st4 ?_
  show OGo p.tables e below _ (T4.setTop (mkF m 27 #[.val (.ref a1), .val (.int q), .val (.int (0 : Int32))] [(.ref c2), (.ref c3)]))
  refine OGo.st (fun _ k_ => XS.iloadN X4.here hx rfl (hb hby own_d_prog_51_method_2_code_27) rfl k_) ?_
  show OGo p.tables e below _ (T4.setTop (mkF m 28 #[.val (.ref a1), .val (.int q), .val (.int (0 : Int32))] [(.int (0 : Int32)), (.ref c2), (.ref c3)]))
  have qz5 := own_ldI X4 hx hZ ez4 A_c2 (j := (0 : Int32)) (v := (0 : Int32)) (by decide) rfl (g := (mkF m 28 #[.val (.ref a1), .val (.int q), .val (.int (0 : Int32))] [(.int (0 : Int32)), (.ref c2), (.ref c3)])) rfl rfl (hb hby own_d_prog_51_method_2_code_28)
  refine OGo.st qz5 ?_
  show OGo p.tables e below _ (T4.setTop (mkF m 29 #[.val (.ref a1), .val (.int q), .val (.int (0 : Int32))] [(.int (0 : Int32)), (.ref c3)]))
  refine OGo.st (fun _ k_ => XS.aloadN X4.here hx rfl (hb hby own_d_prog_51_method_2_code_29) rfl rfl k_) ?_
  show OGo p.tables e below _ (T4.setTop (mkF m 30 #[.val (.ref a1), .val (.int q), .val (.int (0 : Int32))] [(.ref a1), (.int (0 : Int32)), (.ref c3)]))
  obtain ⟨T6, X6, ez6, st6⟩ := getF X4 hx hZ hown (host := "") (Or.inl (hw _ (List.mem_of_getElem? (i := 13) rfl))) Via.refl ez4 F_starts_a1 (g := (mkF m 30 #[.val (.ref a1), .val (.int q), .val (.int (0 : Int32))] [(.ref a1), (.int (0 : Int32)), (.ref c3)])) rfl rfl (hb hby own_d_prog_51_method_2_code_30)
  refine OGo.st st6 ?_
  show OGo p.tables e below _ (T6.setTop (mkF m 33 #[.val (.ref a1), .val (.int q), .val (.int (0 : Int32))] [(.ref c2), (.int (0 : Int32)), (.ref c3)]))
  refine OGo.st (fun _ k_ => XS.iloadN X6.here hx rfl (hb hby own_d_prog_51_method_2_code_33) rfl k_) ?_
  show OGo p.tables e below _ (T6.setTop (mkF m 34 #[.val (.ref a1), .val (.int q), .val (.int (0 : Int32))] [(.int (0 : Int32)), (.ref c2), (.int (0 : Int32)), (.ref c3)]))
  refine OGo.st (fun _ k_ => XS.iconst X6.here hx rfl (hb hby own_d_prog_51_method_2_code_34) k_) ?_
  show OGo p.tables e below _ (T6.setTop (mkF m 35 #[.val (.ref a1), .val (.int q), .val (.int (0 : Int32))] [(.int (1 : Int32)), (.int (0 : Int32)), (.ref c2), (.int (0 : Int32)), (.ref c3)]))
  refine OGo.st (fun _ k_ => XS.iadd X6.here hx rfl (hb hby own_d_prog_51_method_2_code_35) rfl k_) ?_
  show OGo p.tables e below _ (T6.setTop (mkF m 36 #[.val (.ref a1), .val (.int q), .val (.int (0 : Int32))] [(.int (1 : Int32)), (.ref c2), (.int (0 : Int32)), (.ref c3)]))
  have qz7 := own_ldI X6 hx hZ ez6 A_c2 (j := (1 : Int32)) (v := s1) (by decide) rfl (g := (mkF m 36 #[.val (.ref a1), .val (.int q), .val (.int (0 : Int32))] [(.int (1 : Int32)), (.ref c2), (.int (0 : Int32)), (.ref c3)])) rfl rfl (hb hby own_d_prog_51_method_2_code_36)
  refine OGo.st qz7 ?_
  show OGo p.tables e below _ (T6.setTop (mkF m 37 #[.val (.ref a1), .val (.int q), .val (.int (0 : Int32))] [(.int s1), (.int (0 : Int32)), (.ref c3)]))
  obtain ⟨_, _, ⟨T8, Lz8, kz8, nz8⟩, -, X8, ⟨Lc8, hQ8, lz8, yz8, zz8⟩, st8⟩ := Jvm.LawKit.callS X6 hx (y := (⟨"java/util/Arrays", "copyOfRange", "([III)[I"⟩ : MethodName)) hown (mvT hZ (hw _ (List.mem_of_getElem? (i := 29) rfl))) (mvT hZ (hw _ (List.mem_of_getElem? (i := 30) rfl))) (mvT hZ (hw _ (List.mem_of_getElem? (i := 24) rfl))) (mvT hZ (hw _ (List.mem_of_getElem? (i := 31) rfl))) (by decide) (backOf (W := 0) (rm4 l Z a0 hw [] c3 (0 : Int32) s1 k3 g h0 n0 (Nat.le_trans Z0 (Keep.refl h0 []).1) A_c3 ok) hZ (hw _ (List.mem_of_getElem? (i := 31) rfl)) (hw _ (List.mem_of_getElem? (i := 24) rfl)) (by decide) (by decide)) (g := (mkF m 37 #[.val (.ref a1), .val (.int q), .val (.int (0 : Int32))] [(.int s1), (.int (0 : Int32)), (.ref c3)])) rfl (by rw [hml]; rfl) (argsL := [(.ref c3), (.int (0 : Int32)), (.int s1)]) (rest := []) (lenOf own_pd2 rfl) rfl (by show 2 * 0 + _ ≤ _; exact Nat.le_of_eq rfl) (hb hby own_d_prog_51_method_2_code_37) (fun _ _ => ⟨rfl, ez6, (by decide : 0 + 1 ≤ _), (by decide : 0 + 3 ≤ _)⟩)
  dsimp only [Pt.U, Pt.locs, Pt.cells, Pt.slots] at X8 lz8 yz8 zz8 st8 hQ8
  have X8 := own_reb X8 lz8 yz8 zz8
  have X8 : Stand p l e ({ frames := 3, cells := 1, slots := 3, locals := 48 } : Room) s m #[(.ref a1), (.int q)] below meth c T8 _ 1 3 := X8
  obtain ⟨rb8, kr8, rfl, Nq8, Kq8, szr8, Ar8⟩ := hQ8
  have N8 := Fr.app N2 Nq8
  have ne_a1_rb8 : a1 ≠ rb8 := Nat.ne_of_lt (Nat.lt_of_lt_of_le F_documents_a1.lt szr8)
  have ne_c1_rb8 : c1 ≠ rb8 := Nat.ne_of_lt (Nat.lt_of_lt_of_le A_c1.lt szr8)
  have ne_c2_rb8 : c2 ≠ rb8 := Nat.ne_of_lt (Nat.lt_of_lt_of_le A_c2.lt szr8)
  have ne_c3_rb8 : c3 ≠ rb8 := Nat.ne_of_lt (Nat.lt_of_lt_of_le A_c3.lt szr8)
  have g_rb8 : n0 ≤ rb8 := Nat.le_trans (Nat.le_trans Z0 (Keep.refl h0 []).1) szr8
  have sz_rb8 : h0.size ≤ rb8 := Nat.le_trans (Keep.refl h0 []).1 szr8
  have F_9 := F_documents_a1.keep Kq8 nin0
  have F_10 := F_starts_a1.keep Kq8 nin0
  have F_11 := F_positions_a1.keep Kq8 nin0
  have Af_12 := A_c1.keep Kq8 nin0
  have Af_13 := A_c2.keep Kq8 nin0
  have Af_14 := A_c3.keep Kq8 nin0
  have K_15 : Keep h0 T8.heap [] := (Keep.refl h0 []).trans Kq8 all0
  refine OGo.st st8 ?_
  show OGo p.tables e below _ (T8.setTop (mkF m 40 #[.val (.ref a1), .val (.int q), .val (.int (0 : Int32))] [(.ref rb8)]))
  refine OGo.fin X8 (v := some (.ref rb8)) (fun h => by rw [Bd.returns] at h; cases h) hlk (fun fs hr => X8.areturnOut hx rfl Bd.returns rfl (hb hby own_d_prog_51_method_2_code_40) hr) ?_ (by decide) (by decide)
  show own_Q_rm10 Z a1 q c1 c2 c3 k1 k2 k3 d0 d1 d2 s1 s2 s3 g h0 n0 _ T8.heap _
  skip
  exact ⟨_, _, rfl, N8, K_15, sz_rb8, Ar8⟩
theorem own_ef_rm11 (m : MethodId) (x0 : Addr) (x1 : Int32) : entryFrame m #[(.ref x0), (.int x1)] 3 = mkF m 0 #[.val (.ref x0), .val (.int x1), .unset] [] := by first | (simp [entryFrame, mkF, argsToLocals, Value.category]; done) | rfl
def own_Q_rm11 (Z : State) (a1 : Addr) (q : Int32) (c1 c2 c3 : Addr) (k1 k2 k3 : ClassId) (d0 d1 d2 s1 s2 s3 : Int32) (g : Nat → Int32) (h0 : Heap) (n0 : Nat) (v : Option Value) (h : Heap) (L : List Loc) : Prop := ∃ (r : Addr) (k : ClassId), v = some (.ref r) ∧ Fr n0 L ∧ Keep h0 h [] ∧ h0.size ≤ r ∧ Arf Z h r k .int (s2 - s1) (fun i => own_P g (s1.toNatClampNeg + i))
set_option maxRecDepth 65536 in
set_option maxHeartbeats 40000000 in
theorem rm11 (l : Launch) (Z : State) (a0 : Array Value) (hw : ∀ d ∈ tables_1, d.before a0 Z = true) (ws : List Jvm.Cond) (a1 : Addr) (q : Int32) (c1 c2 c3 : Addr) (k1 k2 k3 : ClassId) (d0 d1 d2 s1 s2 s3 : Int32) (g : Nat → Int32) (h0 : Heap) (n0 : Nat) (Z0 : n0 ≤ h0.size) (F_documents_a1 : Fld Z h0 a1 "com/example/cari/cari/index/Positions" "documents" "[I" (.ref c1)) (F_starts_a1 : Fld Z h0 a1 "com/example/cari/cari/index/Positions" "starts" "[I" (.ref c2)) (F_positions_a1 : Fld Z h0 a1 "com/example/cari/cari/index/Positions" "positions" "[I" (.ref c3)) (A_c1 : Arf Z h0 c1 k1 .int 3 (own_P (own_3 d0 d1 d2))) (A_c2 : Arf Z h0 c2 k2 .int 4 (own_P (own_4 0 s1 s2 s3))) (A_c3 : Arf Z h0 c3 k3 .int 9 (own_P g)) (hbs : own_bs d0 d1 d2 q = 1) (ok : own_ok s1 s2) :
    OMet l Z (⟨"com/example/cari/cari/index/Positions", "in", "(I)[I"⟩ : MethodName) prog_51_method_2_code 3 (some (.array .int)) ws ({ frames := 3, cells := 1, slots := 3, locals := 48 } : Room) #[(.ref a1), (.int q)] h0 (own_Q_rm11 Z a1 q c1 c2 c3 k1 k2 k3 d0 d1 d2 s1 s2 s3 g h0 n0) := by
  refine MetFree.of_bodySF (plainFor_of_name own_pn1) hisR ?_
  intro p e s m args below meth c s₁ Bd hml0 hP hK
  obtain ⟨rfl, hZ, hh⟩ := hP
  have hx := Bd.exec
  have hby := Bd.bytes
  have hml : c.maxLocals = 3 := hml0
  have hown : s.vm.findClass "com/example/cari/cari/index/Positions" = some m.cls := findClass_of_methodNamed Bd.named
  have hnm := (name_of_methodNamed Bd.named Bd.method).1
  have hlk : meth.locks = false := Bd.notSynchronized
  have X0 : Stand p l e ({ frames := 3, cells := 1, slots := 3, locals := 48 } : Room) s m #[(.ref a1), (.int q)] below meth c s₁ [] 0 0 := Stand.of_body Bd
  have e0 : s₁.heap = h0 := by rw [← hh, Bd.state]; rfl
  have N0 := Fr.nil n0
  refine OGo.enter (P := OPost s (own_Q_rm11 Z a1 q c1 c2 c3 k1 k2 k3 d0 d1 d2 s1 s2 s3 g h0 n0) 1 3) (own_ef_rm11 m a1 q) ?_
  show OGo p.tables e below _ (s₁.setTop (mkF m 0 #[.val (.ref a1), .val (.int q), .unset] []))
  refine OGo.st (fun _ k_ => XS.aloadN X0.here hx rfl (hb hby own_d_prog_51_method_2_code_0) rfl rfl k_) ?_
  show OGo p.tables e below _ (s₁.setTop (mkF m 1 #[.val (.ref a1), .val (.int q), .unset] [(.ref a1)]))
  obtain ⟨T1, X1, ez1, st1⟩ := getF X0 hx hZ hown (host := "") (Or.inl (hw _ (List.mem_of_getElem? (i := 11) rfl))) Via.refl e0 F_documents_a1 (g := (mkF m 1 #[.val (.ref a1), .val (.int q), .unset] [(.ref a1)])) rfl rfl (hb hby own_d_prog_51_method_2_code_1)
  refine OGo.st st1 ?_
  show OGo p.tables e below _ (T1.setTop (mkF m 4 #[.val (.ref a1), .val (.int q), .unset] [(.ref c1)]))
  refine OGo.st (fun _ k_ => XS.iloadN X1.here hx rfl (hb hby own_d_prog_51_method_2_code_4) rfl k_) ?_
  show OGo p.tables e below _ (T1.setTop (mkF m 5 #[.val (.ref a1), .val (.int q), .unset] [(.int q), (.ref c1)]))
  obtain ⟨_, _, ⟨T2, Lz2, kz2, nz2⟩, -, X2, ⟨Lc2, hQ2, lz2, yz2, zz2⟩, st2⟩ := Jvm.LawKit.callS X1 hx (y := (⟨"java/util/Arrays", "binarySearch", "([II)I"⟩ : MethodName)) hown (mvT hZ (hw _ (List.mem_of_getElem? (i := 22) rfl))) (mvT hZ (hw _ (List.mem_of_getElem? (i := 23) rfl))) (mvT hZ (hw _ (List.mem_of_getElem? (i := 24) rfl))) (mvT hZ (hw _ (List.mem_of_getElem? (i := 25) rfl))) (by decide) (backOf (W := 0) (rm7 l Z a0 hw [] c1 q k1 d0 d1 d2 (1 : Int32) h0 n0 (Nat.le_trans Z0 (Keep.refl h0 []).1) A_c1 hbs) hZ (hw _ (List.mem_of_getElem? (i := 25) rfl)) (hw _ (List.mem_of_getElem? (i := 24) rfl)) (by decide) (by decide)) (g := (mkF m 5 #[.val (.ref a1), .val (.int q), .unset] [(.int q), (.ref c1)])) rfl (by rw [hml]; rfl) (argsL := [(.ref c1), (.int q)]) (rest := []) (lenOf own_pd4 rfl) rfl (by show 2 * 0 + _ ≤ _; exact Nat.le_of_eq rfl) (hb hby own_d_prog_51_method_2_code_5) (fun _ _ => ⟨rfl, ez1, (by decide : 0 + 0 ≤ _), (by decide : 0 + 0 ≤ _)⟩)
  dsimp only [Pt.U, Pt.locs, Pt.cells, Pt.slots] at X2 lz2 yz2 zz2 st2 hQ2
  have X2 := own_reb X2 lz2 yz2 zz2
  have X2 : Stand p l e ({ frames := 3, cells := 1, slots := 3, locals := 48 } : Room) s m #[(.ref a1), (.int q)] below meth c T2 _ 0 0 := X2
  obtain ⟨hvq2, Nq2, ez2⟩ := hQ2
  rw [hvq2] at st2
  have N2 := Fr.app N0 Nq2
  refine OGo.st st2 ?_
  show OGo p.tables e below _ (T2.setTop (mkF m 8 #[.val (.ref a1), .val (.int q), .unset] [(.int (1 : Int32))]))
  refine OGo.st (fun _ k_ => XS.istoreN X2.here hx rfl (hb hby own_d_prog_51_method_2_code_8) rfl (l' := #[.val (.ref a1), .val (.int q), .val (.int (1 : Int32))]) rfl k_) ?_
  show OGo p.tables e below _ (T2.setTop (mkF m 9 #[.val (.ref a1), .val (.int q), .val (.int (1 : Int32))] []))
  refine OGo.st (fun _ k_ => XS.iloadN X2.here hx rfl (hb hby own_d_prog_51_method_2_code_9) rfl k_) ?_
  show OGo p.tables e below _ (T2.setTop (mkF m 10 #[.val (.ref a1), .val (.int q), .val (.int (1 : Int32))] [(.int (1 : Int32))]))
  refine OGo.st (fun _ k_ => XS.ifYes X2.here hx rfl (pc0 := 10) (pc' := 19) rfl (hb hby own_d_prog_51_method_2_code_10) rfl (XT.i0_ge_t (by decide)) (by decide) (by decide) k_) ?_
  show OGo p.tables e below _ (T2.setTop (mkF m 19 #[.val (.ref a1), .val (.int q), .val (.int (1 : Int32))] []))
  refine OGo.st (fun _ k_ => XS.aloadN X2.here hx rfl (hb hby own_d_prog_51_method_2_code_19) rfl rfl k_) ?_
  show OGo p.tables e below _ (T2.setTop (mkF m 20 #[.val (.ref a1), .val (.int q), .val (.int (1 : Int32))] [(.ref a1)]))
  obtain ⟨T3, X3, ez3, st3⟩ := getF X2 hx hZ hown (host := "") (Or.inl (hw _ (List.mem_of_getElem? (i := 15) rfl))) Via.refl ez2 F_positions_a1 (g := (mkF m 20 #[.val (.ref a1), .val (.int q), .val (.int (1 : Int32))] [(.ref a1)])) rfl rfl (hb hby own_d_prog_51_method_2_code_20)
  refine OGo.st st3 ?_
  show OGo p.tables e below _ (T3.setTop (mkF m 23 #[.val (.ref a1), .val (.int q), .val (.int (1 : Int32))] [(.ref c3)]))
  refine OGo.st (fun _ k_ => XS.aloadN X3.here hx rfl (hb hby own_d_prog_51_method_2_code_23) rfl rfl k_) ?_
  show OGo p.tables e below _ (T3.setTop (mkF m 24 #[.val (.ref a1), .val (.int q), .val (.int (1 : Int32))] [(.ref a1), (.ref c3)]))
  obtain ⟨T4, X4, ez4, st4⟩ := getF X3 hx hZ hown (host := "") (Or.inl (hw _ (List.mem_of_getElem? (i := 13) rfl))) Via.refl ez3 F_starts_a1 (g := (mkF m 24 #[.val (.ref a1), .val (.int q), .val (.int (1 : Int32))] [(.ref a1), (.ref c3)])) rfl rfl (hb hby own_d_prog_51_method_2_code_24)
  refine OGo.st st4 ?_
  show OGo p.tables e below _ (T4.setTop (mkF m 27 #[.val (.ref a1), .val (.int q), .val (.int (1 : Int32))] [(.ref c2), (.ref c3)]))
  refine OGo.st (fun _ k_ => XS.iloadN X4.here hx rfl (hb hby own_d_prog_51_method_2_code_27) rfl k_) ?_
  show OGo p.tables e below _ (T4.setTop (mkF m 28 #[.val (.ref a1), .val (.int q), .val (.int (1 : Int32))] [(.int (1 : Int32)), (.ref c2), (.ref c3)]))
  have qz5 := own_ldI X4 hx hZ ez4 A_c2 (j := (1 : Int32)) (v := s1) (by decide) rfl (g := (mkF m 28 #[.val (.ref a1), .val (.int q), .val (.int (1 : Int32))] [(.int (1 : Int32)), (.ref c2), (.ref c3)])) rfl rfl (hb hby own_d_prog_51_method_2_code_28)
  refine OGo.st qz5 ?_
  show OGo p.tables e below _ (T4.setTop (mkF m 29 #[.val (.ref a1), .val (.int q), .val (.int (1 : Int32))] [(.int s1), (.ref c3)]))
  refine OGo.st (fun _ k_ => XS.aloadN X4.here hx rfl (hb hby own_d_prog_51_method_2_code_29) rfl rfl k_) ?_
  show OGo p.tables e below _ (T4.setTop (mkF m 30 #[.val (.ref a1), .val (.int q), .val (.int (1 : Int32))] [(.ref a1), (.int s1), (.ref c3)]))
  obtain ⟨T6, X6, ez6, st6⟩ := getF X4 hx hZ hown (host := "") (Or.inl (hw _ (List.mem_of_getElem? (i := 13) rfl))) Via.refl ez4 F_starts_a1 (g := (mkF m 30 #[.val (.ref a1), .val (.int q), .val (.int (1 : Int32))] [(.ref a1), (.int s1), (.ref c3)])) rfl rfl (hb hby own_d_prog_51_method_2_code_30)
  refine OGo.st st6 ?_
  show OGo p.tables e below _ (T6.setTop (mkF m 33 #[.val (.ref a1), .val (.int q), .val (.int (1 : Int32))] [(.ref c2), (.int s1), (.ref c3)]))
  refine OGo.st (fun _ k_ => XS.iloadN X6.here hx rfl (hb hby own_d_prog_51_method_2_code_33) rfl k_) ?_
  show OGo p.tables e below _ (T6.setTop (mkF m 34 #[.val (.ref a1), .val (.int q), .val (.int (1 : Int32))] [(.int (1 : Int32)), (.ref c2), (.int s1), (.ref c3)]))
  refine OGo.st (fun _ k_ => XS.iconst X6.here hx rfl (hb hby own_d_prog_51_method_2_code_34) k_) ?_
  show OGo p.tables e below _ (T6.setTop (mkF m 35 #[.val (.ref a1), .val (.int q), .val (.int (1 : Int32))] [(.int (1 : Int32)), (.int (1 : Int32)), (.ref c2), (.int s1), (.ref c3)]))
  refine OGo.st (fun _ k_ => XS.iadd X6.here hx rfl (hb hby own_d_prog_51_method_2_code_35) rfl k_) ?_
  show OGo p.tables e below _ (T6.setTop (mkF m 36 #[.val (.ref a1), .val (.int q), .val (.int (1 : Int32))] [(.int (2 : Int32)), (.ref c2), (.int s1), (.ref c3)]))
  have qz7 := own_ldI X6 hx hZ ez6 A_c2 (j := (2 : Int32)) (v := s2) (by decide) rfl (g := (mkF m 36 #[.val (.ref a1), .val (.int q), .val (.int (1 : Int32))] [(.int (2 : Int32)), (.ref c2), (.int s1), (.ref c3)])) rfl rfl (hb hby own_d_prog_51_method_2_code_36)
  refine OGo.st qz7 ?_
  show OGo p.tables e below _ (T6.setTop (mkF m 37 #[.val (.ref a1), .val (.int q), .val (.int (1 : Int32))] [(.int s2), (.int s1), (.ref c3)]))
  obtain ⟨_, _, ⟨T8, Lz8, kz8, nz8⟩, -, X8, ⟨Lc8, hQ8, lz8, yz8, zz8⟩, st8⟩ := Jvm.LawKit.callS X6 hx (y := (⟨"java/util/Arrays", "copyOfRange", "([III)[I"⟩ : MethodName)) hown (mvT hZ (hw _ (List.mem_of_getElem? (i := 29) rfl))) (mvT hZ (hw _ (List.mem_of_getElem? (i := 30) rfl))) (mvT hZ (hw _ (List.mem_of_getElem? (i := 24) rfl))) (mvT hZ (hw _ (List.mem_of_getElem? (i := 31) rfl))) (by decide) (backOf (W := 0) (rm4 l Z a0 hw [] c3 s1 s2 k3 g h0 n0 (Nat.le_trans Z0 (Keep.refl h0 []).1) A_c3 ok) hZ (hw _ (List.mem_of_getElem? (i := 31) rfl)) (hw _ (List.mem_of_getElem? (i := 24) rfl)) (by decide) (by decide)) (g := (mkF m 37 #[.val (.ref a1), .val (.int q), .val (.int (1 : Int32))] [(.int s2), (.int s1), (.ref c3)])) rfl (by rw [hml]; rfl) (argsL := [(.ref c3), (.int s1), (.int s2)]) (rest := []) (lenOf own_pd2 rfl) rfl (by show 2 * 0 + _ ≤ _; exact Nat.le_of_eq rfl) (hb hby own_d_prog_51_method_2_code_37) (fun _ _ => ⟨rfl, ez6, (by decide : 0 + 1 ≤ _), (by decide : 0 + 3 ≤ _)⟩)
  dsimp only [Pt.U, Pt.locs, Pt.cells, Pt.slots] at X8 lz8 yz8 zz8 st8 hQ8
  have X8 := own_reb X8 lz8 yz8 zz8
  have X8 : Stand p l e ({ frames := 3, cells := 1, slots := 3, locals := 48 } : Room) s m #[(.ref a1), (.int q)] below meth c T8 _ 1 3 := X8
  obtain ⟨rb8, kr8, rfl, Nq8, Kq8, szr8, Ar8⟩ := hQ8
  have N8 := Fr.app N2 Nq8
  have ne_a1_rb8 : a1 ≠ rb8 := Nat.ne_of_lt (Nat.lt_of_lt_of_le F_documents_a1.lt szr8)
  have ne_c1_rb8 : c1 ≠ rb8 := Nat.ne_of_lt (Nat.lt_of_lt_of_le A_c1.lt szr8)
  have ne_c2_rb8 : c2 ≠ rb8 := Nat.ne_of_lt (Nat.lt_of_lt_of_le A_c2.lt szr8)
  have ne_c3_rb8 : c3 ≠ rb8 := Nat.ne_of_lt (Nat.lt_of_lt_of_le A_c3.lt szr8)
  have g_rb8 : n0 ≤ rb8 := Nat.le_trans (Nat.le_trans Z0 (Keep.refl h0 []).1) szr8
  have sz_rb8 : h0.size ≤ rb8 := Nat.le_trans (Keep.refl h0 []).1 szr8
  have F_9 := F_documents_a1.keep Kq8 nin0
  have F_10 := F_starts_a1.keep Kq8 nin0
  have F_11 := F_positions_a1.keep Kq8 nin0
  have Af_12 := A_c1.keep Kq8 nin0
  have Af_13 := A_c2.keep Kq8 nin0
  have Af_14 := A_c3.keep Kq8 nin0
  have K_15 : Keep h0 T8.heap [] := (Keep.refl h0 []).trans Kq8 all0
  refine OGo.st st8 ?_
  show OGo p.tables e below _ (T8.setTop (mkF m 40 #[.val (.ref a1), .val (.int q), .val (.int (1 : Int32))] [(.ref rb8)]))
  refine OGo.fin X8 (v := some (.ref rb8)) (fun h => by rw [Bd.returns] at h; cases h) hlk (fun fs hr => X8.areturnOut hx rfl Bd.returns rfl (hb hby own_d_prog_51_method_2_code_40) hr) ?_ (by decide) (by decide)
  show own_Q_rm11 Z a1 q c1 c2 c3 k1 k2 k3 d0 d1 d2 s1 s2 s3 g h0 n0 _ T8.heap _
  skip
  exact ⟨_, _, rfl, N8, K_15, sz_rb8, Ar8⟩
theorem own_ef_rm12 (m : MethodId) (x0 : Addr) (x1 : Int32) : entryFrame m #[(.ref x0), (.int x1)] 3 = mkF m 0 #[.val (.ref x0), .val (.int x1), .unset] [] := by first | (simp [entryFrame, mkF, argsToLocals, Value.category]; done) | rfl
def own_Q_rm12 (Z : State) (a1 : Addr) (q : Int32) (c1 c2 c3 : Addr) (k1 k2 k3 : ClassId) (d0 d1 d2 s1 s2 s3 : Int32) (g : Nat → Int32) (h0 : Heap) (n0 : Nat) (v : Option Value) (h : Heap) (L : List Loc) : Prop := ∃ (r : Addr) (k : ClassId), v = some (.ref r) ∧ Fr n0 L ∧ Keep h0 h [] ∧ h0.size ≤ r ∧ Arf Z h r k .int (s3 - s2) (fun i => own_P g (s2.toNatClampNeg + i))
set_option maxRecDepth 65536 in
set_option maxHeartbeats 40000000 in
theorem rm12 (l : Launch) (Z : State) (a0 : Array Value) (hw : ∀ d ∈ tables_1, d.before a0 Z = true) (ws : List Jvm.Cond) (a1 : Addr) (q : Int32) (c1 c2 c3 : Addr) (k1 k2 k3 : ClassId) (d0 d1 d2 s1 s2 s3 : Int32) (g : Nat → Int32) (h0 : Heap) (n0 : Nat) (Z0 : n0 ≤ h0.size) (F_documents_a1 : Fld Z h0 a1 "com/example/cari/cari/index/Positions" "documents" "[I" (.ref c1)) (F_starts_a1 : Fld Z h0 a1 "com/example/cari/cari/index/Positions" "starts" "[I" (.ref c2)) (F_positions_a1 : Fld Z h0 a1 "com/example/cari/cari/index/Positions" "positions" "[I" (.ref c3)) (A_c1 : Arf Z h0 c1 k1 .int 3 (own_P (own_3 d0 d1 d2))) (A_c2 : Arf Z h0 c2 k2 .int 4 (own_P (own_4 0 s1 s2 s3))) (A_c3 : Arf Z h0 c3 k3 .int 9 (own_P g)) (hbs : own_bs d0 d1 d2 q = 2) (ok : own_ok s2 s3) :
    OMet l Z (⟨"com/example/cari/cari/index/Positions", "in", "(I)[I"⟩ : MethodName) prog_51_method_2_code 3 (some (.array .int)) ws ({ frames := 3, cells := 1, slots := 3, locals := 48 } : Room) #[(.ref a1), (.int q)] h0 (own_Q_rm12 Z a1 q c1 c2 c3 k1 k2 k3 d0 d1 d2 s1 s2 s3 g h0 n0) := by
  refine MetFree.of_bodySF (plainFor_of_name own_pn1) hisR ?_
  intro p e s m args below meth c s₁ Bd hml0 hP hK
  obtain ⟨rfl, hZ, hh⟩ := hP
  have hx := Bd.exec
  have hby := Bd.bytes
  have hml : c.maxLocals = 3 := hml0
  have hown : s.vm.findClass "com/example/cari/cari/index/Positions" = some m.cls := findClass_of_methodNamed Bd.named
  have hnm := (name_of_methodNamed Bd.named Bd.method).1
  have hlk : meth.locks = false := Bd.notSynchronized
  have X0 : Stand p l e ({ frames := 3, cells := 1, slots := 3, locals := 48 } : Room) s m #[(.ref a1), (.int q)] below meth c s₁ [] 0 0 := Stand.of_body Bd
  have e0 : s₁.heap = h0 := by rw [← hh, Bd.state]; rfl
  have N0 := Fr.nil n0
  refine OGo.enter (P := OPost s (own_Q_rm12 Z a1 q c1 c2 c3 k1 k2 k3 d0 d1 d2 s1 s2 s3 g h0 n0) 1 3) (own_ef_rm12 m a1 q) ?_
  show OGo p.tables e below _ (s₁.setTop (mkF m 0 #[.val (.ref a1), .val (.int q), .unset] []))
  refine OGo.st (fun _ k_ => XS.aloadN X0.here hx rfl (hb hby own_d_prog_51_method_2_code_0) rfl rfl k_) ?_
  show OGo p.tables e below _ (s₁.setTop (mkF m 1 #[.val (.ref a1), .val (.int q), .unset] [(.ref a1)]))
  obtain ⟨T1, X1, ez1, st1⟩ := getF X0 hx hZ hown (host := "") (Or.inl (hw _ (List.mem_of_getElem? (i := 11) rfl))) Via.refl e0 F_documents_a1 (g := (mkF m 1 #[.val (.ref a1), .val (.int q), .unset] [(.ref a1)])) rfl rfl (hb hby own_d_prog_51_method_2_code_1)
  refine OGo.st st1 ?_
  show OGo p.tables e below _ (T1.setTop (mkF m 4 #[.val (.ref a1), .val (.int q), .unset] [(.ref c1)]))
  refine OGo.st (fun _ k_ => XS.iloadN X1.here hx rfl (hb hby own_d_prog_51_method_2_code_4) rfl k_) ?_
  show OGo p.tables e below _ (T1.setTop (mkF m 5 #[.val (.ref a1), .val (.int q), .unset] [(.int q), (.ref c1)]))
  obtain ⟨_, _, ⟨T2, Lz2, kz2, nz2⟩, -, X2, ⟨Lc2, hQ2, lz2, yz2, zz2⟩, st2⟩ := Jvm.LawKit.callS X1 hx (y := (⟨"java/util/Arrays", "binarySearch", "([II)I"⟩ : MethodName)) hown (mvT hZ (hw _ (List.mem_of_getElem? (i := 22) rfl))) (mvT hZ (hw _ (List.mem_of_getElem? (i := 23) rfl))) (mvT hZ (hw _ (List.mem_of_getElem? (i := 24) rfl))) (mvT hZ (hw _ (List.mem_of_getElem? (i := 25) rfl))) (by decide) (backOf (W := 0) (rm7 l Z a0 hw [] c1 q k1 d0 d1 d2 (2 : Int32) h0 n0 (Nat.le_trans Z0 (Keep.refl h0 []).1) A_c1 hbs) hZ (hw _ (List.mem_of_getElem? (i := 25) rfl)) (hw _ (List.mem_of_getElem? (i := 24) rfl)) (by decide) (by decide)) (g := (mkF m 5 #[.val (.ref a1), .val (.int q), .unset] [(.int q), (.ref c1)])) rfl (by rw [hml]; rfl) (argsL := [(.ref c1), (.int q)]) (rest := []) (lenOf own_pd4 rfl) rfl (by show 2 * 0 + _ ≤ _; exact Nat.le_of_eq rfl) (hb hby own_d_prog_51_method_2_code_5) (fun _ _ => ⟨rfl, ez1, (by decide : 0 + 0 ≤ _), (by decide : 0 + 0 ≤ _)⟩)
  dsimp only [Pt.U, Pt.locs, Pt.cells, Pt.slots] at X2 lz2 yz2 zz2 st2 hQ2
  have X2 := own_reb X2 lz2 yz2 zz2
  have X2 : Stand p l e ({ frames := 3, cells := 1, slots := 3, locals := 48 } : Room) s m #[(.ref a1), (.int q)] below meth c T2 _ 0 0 := X2
  obtain ⟨hvq2, Nq2, ez2⟩ := hQ2
  rw [hvq2] at st2
  have N2 := Fr.app N0 Nq2
  refine OGo.st st2 ?_
  show OGo p.tables e below _ (T2.setTop (mkF m 8 #[.val (.ref a1), .val (.int q), .unset] [(.int (2 : Int32))]))
  refine OGo.st (fun _ k_ => XS.istoreN X2.here hx rfl (hb hby own_d_prog_51_method_2_code_8) rfl (l' := #[.val (.ref a1), .val (.int q), .val (.int (2 : Int32))]) rfl k_) ?_
  show OGo p.tables e below _ (T2.setTop (mkF m 9 #[.val (.ref a1), .val (.int q), .val (.int (2 : Int32))] []))
  refine OGo.st (fun _ k_ => XS.iloadN X2.here hx rfl (hb hby own_d_prog_51_method_2_code_9) rfl k_) ?_
  show OGo p.tables e below _ (T2.setTop (mkF m 10 #[.val (.ref a1), .val (.int q), .val (.int (2 : Int32))] [(.int (2 : Int32))]))
  refine OGo.st (fun _ k_ => XS.ifYes X2.here hx rfl (pc0 := 10) (pc' := 19) rfl (hb hby own_d_prog_51_method_2_code_10) rfl (XT.i0_ge_t (by decide)) (by decide) (by decide) k_) ?_
  show OGo p.tables e below _ (T2.setTop (mkF m 19 #[.val (.ref a1), .val (.int q), .val (.int (2 : Int32))] []))
  refine OGo.st (fun _ k_ => XS.aloadN X2.here hx rfl (hb hby own_d_prog_51_method_2_code_19) rfl rfl k_) ?_
  show OGo p.tables e below _ (T2.setTop (mkF m 20 #[.val (.ref a1), .val (.int q), .val (.int (2 : Int32))] [(.ref a1)]))
  obtain ⟨T3, X3, ez3, st3⟩ := getF X2 hx hZ hown (host := "") (Or.inl (hw _ (List.mem_of_getElem? (i := 15) rfl))) Via.refl ez2 F_positions_a1 (g := (mkF m 20 #[.val (.ref a1), .val (.int q), .val (.int (2 : Int32))] [(.ref a1)])) rfl rfl (hb hby own_d_prog_51_method_2_code_20)
  refine OGo.st st3 ?_
  show OGo p.tables e below _ (T3.setTop (mkF m 23 #[.val (.ref a1), .val (.int q), .val (.int (2 : Int32))] [(.ref c3)]))
  refine OGo.st (fun _ k_ => XS.aloadN X3.here hx rfl (hb hby own_d_prog_51_method_2_code_23) rfl rfl k_) ?_
  show OGo p.tables e below _ (T3.setTop (mkF m 24 #[.val (.ref a1), .val (.int q), .val (.int (2 : Int32))] [(.ref a1), (.ref c3)]))
  obtain ⟨T4, X4, ez4, st4⟩ := getF X3 hx hZ hown (host := "") (Or.inl (hw _ (List.mem_of_getElem? (i := 13) rfl))) Via.refl ez3 F_starts_a1 (g := (mkF m 24 #[.val (.ref a1), .val (.int q), .val (.int (2 : Int32))] [(.ref a1), (.ref c3)])) rfl rfl (hb hby own_d_prog_51_method_2_code_24)
  refine OGo.st st4 ?_
  show OGo p.tables e below _ (T4.setTop (mkF m 27 #[.val (.ref a1), .val (.int q), .val (.int (2 : Int32))] [(.ref c2), (.ref c3)]))
  refine OGo.st (fun _ k_ => XS.iloadN X4.here hx rfl (hb hby own_d_prog_51_method_2_code_27) rfl k_) ?_
  show OGo p.tables e below _ (T4.setTop (mkF m 28 #[.val (.ref a1), .val (.int q), .val (.int (2 : Int32))] [(.int (2 : Int32)), (.ref c2), (.ref c3)]))
  have qz5 := own_ldI X4 hx hZ ez4 A_c2 (j := (2 : Int32)) (v := s2) (by decide) rfl (g := (mkF m 28 #[.val (.ref a1), .val (.int q), .val (.int (2 : Int32))] [(.int (2 : Int32)), (.ref c2), (.ref c3)])) rfl rfl (hb hby own_d_prog_51_method_2_code_28)
  refine OGo.st qz5 ?_
  show OGo p.tables e below _ (T4.setTop (mkF m 29 #[.val (.ref a1), .val (.int q), .val (.int (2 : Int32))] [(.int s2), (.ref c3)]))
  refine OGo.st (fun _ k_ => XS.aloadN X4.here hx rfl (hb hby own_d_prog_51_method_2_code_29) rfl rfl k_) ?_
  show OGo p.tables e below _ (T4.setTop (mkF m 30 #[.val (.ref a1), .val (.int q), .val (.int (2 : Int32))] [(.ref a1), (.int s2), (.ref c3)]))
  obtain ⟨T6, X6, ez6, st6⟩ := getF X4 hx hZ hown (host := "") (Or.inl (hw _ (List.mem_of_getElem? (i := 13) rfl))) Via.refl ez4 F_starts_a1 (g := (mkF m 30 #[.val (.ref a1), .val (.int q), .val (.int (2 : Int32))] [(.ref a1), (.int s2), (.ref c3)])) rfl rfl (hb hby own_d_prog_51_method_2_code_30)
  refine OGo.st st6 ?_
  show OGo p.tables e below _ (T6.setTop (mkF m 33 #[.val (.ref a1), .val (.int q), .val (.int (2 : Int32))] [(.ref c2), (.int s2), (.ref c3)]))
  refine OGo.st (fun _ k_ => XS.iloadN X6.here hx rfl (hb hby own_d_prog_51_method_2_code_33) rfl k_) ?_
  show OGo p.tables e below _ (T6.setTop (mkF m 34 #[.val (.ref a1), .val (.int q), .val (.int (2 : Int32))] [(.int (2 : Int32)), (.ref c2), (.int s2), (.ref c3)]))
  refine OGo.st (fun _ k_ => XS.iconst X6.here hx rfl (hb hby own_d_prog_51_method_2_code_34) k_) ?_
  show OGo p.tables e below _ (T6.setTop (mkF m 35 #[.val (.ref a1), .val (.int q), .val (.int (2 : Int32))] [(.int (1 : Int32)), (.int (2 : Int32)), (.ref c2), (.int s2), (.ref c3)]))
  refine OGo.st (fun _ k_ => XS.iadd X6.here hx rfl (hb hby own_d_prog_51_method_2_code_35) rfl k_) ?_
  show OGo p.tables e below _ (T6.setTop (mkF m 36 #[.val (.ref a1), .val (.int q), .val (.int (2 : Int32))] [(.int (3 : Int32)), (.ref c2), (.int s2), (.ref c3)]))
  have qz7 := own_ldI X6 hx hZ ez6 A_c2 (j := (3 : Int32)) (v := s3) (by decide) rfl (g := (mkF m 36 #[.val (.ref a1), .val (.int q), .val (.int (2 : Int32))] [(.int (3 : Int32)), (.ref c2), (.int s2), (.ref c3)])) rfl rfl (hb hby own_d_prog_51_method_2_code_36)
  refine OGo.st qz7 ?_
  show OGo p.tables e below _ (T6.setTop (mkF m 37 #[.val (.ref a1), .val (.int q), .val (.int (2 : Int32))] [(.int s3), (.int s2), (.ref c3)]))
  obtain ⟨_, _, ⟨T8, Lz8, kz8, nz8⟩, -, X8, ⟨Lc8, hQ8, lz8, yz8, zz8⟩, st8⟩ := Jvm.LawKit.callS X6 hx (y := (⟨"java/util/Arrays", "copyOfRange", "([III)[I"⟩ : MethodName)) hown (mvT hZ (hw _ (List.mem_of_getElem? (i := 29) rfl))) (mvT hZ (hw _ (List.mem_of_getElem? (i := 30) rfl))) (mvT hZ (hw _ (List.mem_of_getElem? (i := 24) rfl))) (mvT hZ (hw _ (List.mem_of_getElem? (i := 31) rfl))) (by decide) (backOf (W := 0) (rm4 l Z a0 hw [] c3 s2 s3 k3 g h0 n0 (Nat.le_trans Z0 (Keep.refl h0 []).1) A_c3 ok) hZ (hw _ (List.mem_of_getElem? (i := 31) rfl)) (hw _ (List.mem_of_getElem? (i := 24) rfl)) (by decide) (by decide)) (g := (mkF m 37 #[.val (.ref a1), .val (.int q), .val (.int (2 : Int32))] [(.int s3), (.int s2), (.ref c3)])) rfl (by rw [hml]; rfl) (argsL := [(.ref c3), (.int s2), (.int s3)]) (rest := []) (lenOf own_pd2 rfl) rfl (by show 2 * 0 + _ ≤ _; exact Nat.le_of_eq rfl) (hb hby own_d_prog_51_method_2_code_37) (fun _ _ => ⟨rfl, ez6, (by decide : 0 + 1 ≤ _), (by decide : 0 + 3 ≤ _)⟩)
  dsimp only [Pt.U, Pt.locs, Pt.cells, Pt.slots] at X8 lz8 yz8 zz8 st8 hQ8
  have X8 := own_reb X8 lz8 yz8 zz8
  have X8 : Stand p l e ({ frames := 3, cells := 1, slots := 3, locals := 48 } : Room) s m #[(.ref a1), (.int q)] below meth c T8 _ 1 3 := X8
  obtain ⟨rb8, kr8, rfl, Nq8, Kq8, szr8, Ar8⟩ := hQ8
  have N8 := Fr.app N2 Nq8
  have ne_a1_rb8 : a1 ≠ rb8 := Nat.ne_of_lt (Nat.lt_of_lt_of_le F_documents_a1.lt szr8)
  have ne_c1_rb8 : c1 ≠ rb8 := Nat.ne_of_lt (Nat.lt_of_lt_of_le A_c1.lt szr8)
  have ne_c2_rb8 : c2 ≠ rb8 := Nat.ne_of_lt (Nat.lt_of_lt_of_le A_c2.lt szr8)
  have ne_c3_rb8 : c3 ≠ rb8 := Nat.ne_of_lt (Nat.lt_of_lt_of_le A_c3.lt szr8)
  have g_rb8 : n0 ≤ rb8 := Nat.le_trans (Nat.le_trans Z0 (Keep.refl h0 []).1) szr8
  have sz_rb8 : h0.size ≤ rb8 := Nat.le_trans (Keep.refl h0 []).1 szr8
  have F_9 := F_documents_a1.keep Kq8 nin0
  have F_10 := F_starts_a1.keep Kq8 nin0
  have F_11 := F_positions_a1.keep Kq8 nin0
  have Af_12 := A_c1.keep Kq8 nin0
  have Af_13 := A_c2.keep Kq8 nin0
  have Af_14 := A_c3.keep Kq8 nin0
  have K_15 : Keep h0 T8.heap [] := (Keep.refl h0 []).trans Kq8 all0
  refine OGo.st st8 ?_
  show OGo p.tables e below _ (T8.setTop (mkF m 40 #[.val (.ref a1), .val (.int q), .val (.int (2 : Int32))] [(.ref rb8)]))
  refine OGo.fin X8 (v := some (.ref rb8)) (fun h => by rw [Bd.returns] at h; cases h) hlk (fun fs hr => X8.areturnOut hx rfl Bd.returns rfl (hb hby own_d_prog_51_method_2_code_40) hr) ?_ (by decide) (by decide)
  show own_Q_rm12 Z a1 q c1 c2 c3 k1 k2 k3 d0 d1 d2 s1 s2 s3 g h0 n0 _ T8.heap _
  skip
  exact ⟨_, _, rfl, N8, K_15, sz_rb8, Ar8⟩
theorem own_d_prog_51_method_2_code_13 : decode prog_51_method_2_code 13 = .ok (.iconst 0, 1) := by decide +kernel
theorem own_d_prog_51_method_2_code_14 : decode prog_51_method_2_code 14 = .ok (.newarray .int, 2) := by decide +kernel
theorem own_d_prog_51_method_2_code_16 : decode prog_51_method_2_code 16 = .ok (.goto 24, 3) := by decide +kernel
theorem own_ef_rm13 (m : MethodId) (x0 : Addr) (x1 : Int32) : entryFrame m #[(.ref x0), (.int x1)] 3 = mkF m 0 #[.val (.ref x0), .val (.int x1), .unset] [] := by first | (simp [entryFrame, mkF, argsToLocals, Value.category]; done) | rfl
def own_Q_rm13 (Z : State) (a1 : Addr) (q : Int32) (c1 c2 c3 : Addr) (k1 k2 k3 : ClassId) (d0 d1 d2 s1 s2 s3 : Int32) (g : Nat → Int32) (h0 : Heap) (n0 : Nat) (v : Option Value) (h : Heap) (L : List Loc) : Prop := ∃ (r : Addr) (k : ClassId), v = some (.ref r) ∧ Fr n0 L ∧ Keep h0 h [] ∧ h0.size ≤ r ∧ Arf Z h r k .int 0 (fun _ => .int 0)
set_option maxRecDepth 65536 in
set_option maxHeartbeats 40000000 in
theorem rm13 (l : Launch) (Z : State) (a0 : Array Value) (hw : ∀ d ∈ tables_1, d.before a0 Z = true) (ws : List Jvm.Cond) (a1 : Addr) (q : Int32) (c1 c2 c3 : Addr) (k1 k2 k3 : ClassId) (d0 d1 d2 s1 s2 s3 : Int32) (g : Nat → Int32) (h0 : Heap) (n0 : Nat) (Z0 : n0 ≤ h0.size) (F_documents_a1 : Fld Z h0 a1 "com/example/cari/cari/index/Positions" "documents" "[I" (.ref c1)) (F_starts_a1 : Fld Z h0 a1 "com/example/cari/cari/index/Positions" "starts" "[I" (.ref c2)) (F_positions_a1 : Fld Z h0 a1 "com/example/cari/cari/index/Positions" "positions" "[I" (.ref c3)) (A_c1 : Arf Z h0 c1 k1 .int 3 (own_P (own_3 d0 d1 d2))) (A_c2 : Arf Z h0 c2 k2 .int 4 (own_P (own_4 0 s1 s2 s3))) (A_c3 : Arf Z h0 c3 k3 .int 9 (own_P g)) (hneg : own_bs d0 d1 d2 q < 0) :
    OMet l Z (⟨"com/example/cari/cari/index/Positions", "in", "(I)[I"⟩ : MethodName) prog_51_method_2_code 3 (some (.array .int)) ws ({ frames := 2, cells := 1, slots := 0, locals := 32 } : Room) #[(.ref a1), (.int q)] h0 (own_Q_rm13 Z a1 q c1 c2 c3 k1 k2 k3 d0 d1 d2 s1 s2 s3 g h0 n0) := by
  refine MetFree.of_bodySF (plainFor_of_name own_pn1) hisR ?_
  intro p e s m args below meth c s₁ Bd hml0 hP hK
  obtain ⟨rfl, hZ, hh⟩ := hP
  have hx := Bd.exec
  have hby := Bd.bytes
  have hml : c.maxLocals = 3 := hml0
  have hown : s.vm.findClass "com/example/cari/cari/index/Positions" = some m.cls := findClass_of_methodNamed Bd.named
  have hnm := (name_of_methodNamed Bd.named Bd.method).1
  have hlk : meth.locks = false := Bd.notSynchronized
  have X0 : Stand p l e ({ frames := 2, cells := 1, slots := 0, locals := 32 } : Room) s m #[(.ref a1), (.int q)] below meth c s₁ [] 0 0 := Stand.of_body Bd
  have e0 : s₁.heap = h0 := by rw [← hh, Bd.state]; rfl
  have N0 := Fr.nil n0
  refine OGo.enter (P := OPost s (own_Q_rm13 Z a1 q c1 c2 c3 k1 k2 k3 d0 d1 d2 s1 s2 s3 g h0 n0) 1 0) (own_ef_rm13 m a1 q) ?_
  show OGo p.tables e below _ (s₁.setTop (mkF m 0 #[.val (.ref a1), .val (.int q), .unset] []))
  refine OGo.st (fun _ k_ => XS.aloadN X0.here hx rfl (hb hby own_d_prog_51_method_2_code_0) rfl rfl k_) ?_
  show OGo p.tables e below _ (s₁.setTop (mkF m 1 #[.val (.ref a1), .val (.int q), .unset] [(.ref a1)]))
  obtain ⟨T1, X1, ez1, st1⟩ := getF X0 hx hZ hown (host := "") (Or.inl (hw _ (List.mem_of_getElem? (i := 11) rfl))) Via.refl e0 F_documents_a1 (g := (mkF m 1 #[.val (.ref a1), .val (.int q), .unset] [(.ref a1)])) rfl rfl (hb hby own_d_prog_51_method_2_code_1)
  refine OGo.st st1 ?_
  show OGo p.tables e below _ (T1.setTop (mkF m 4 #[.val (.ref a1), .val (.int q), .unset] [(.ref c1)]))
  refine OGo.st (fun _ k_ => XS.iloadN X1.here hx rfl (hb hby own_d_prog_51_method_2_code_4) rfl k_) ?_
  show OGo p.tables e below _ (T1.setTop (mkF m 5 #[.val (.ref a1), .val (.int q), .unset] [(.int q), (.ref c1)]))
  obtain ⟨_, _, ⟨T2, Lz2, kz2, nz2⟩, -, X2, ⟨Lc2, hQ2, lz2, yz2, zz2⟩, st2⟩ := Jvm.LawKit.callS X1 hx (y := (⟨"java/util/Arrays", "binarySearch", "([II)I"⟩ : MethodName)) hown (mvT hZ (hw _ (List.mem_of_getElem? (i := 22) rfl))) (mvT hZ (hw _ (List.mem_of_getElem? (i := 23) rfl))) (mvT hZ (hw _ (List.mem_of_getElem? (i := 24) rfl))) (mvT hZ (hw _ (List.mem_of_getElem? (i := 25) rfl))) (by decide) (backOf (W := 0) (rm7 l Z a0 hw [] c1 q k1 d0 d1 d2 (own_bs d0 d1 d2 q) h0 n0 (Nat.le_trans Z0 (Keep.refl h0 []).1) A_c1 rfl) hZ (hw _ (List.mem_of_getElem? (i := 25) rfl)) (hw _ (List.mem_of_getElem? (i := 24) rfl)) (by decide) (by decide)) (g := (mkF m 5 #[.val (.ref a1), .val (.int q), .unset] [(.int q), (.ref c1)])) rfl (by rw [hml]; rfl) (argsL := [(.ref c1), (.int q)]) (rest := []) (lenOf own_pd4 rfl) rfl (by show 2 * 0 + _ ≤ _; exact Nat.le_of_eq rfl) (hb hby own_d_prog_51_method_2_code_5) (fun _ _ => ⟨rfl, ez1, (by decide : 0 + 0 ≤ _), (by decide : 0 + 0 ≤ _)⟩)
  dsimp only [Pt.U, Pt.locs, Pt.cells, Pt.slots] at X2 lz2 yz2 zz2 st2 hQ2
  have X2 := own_reb X2 lz2 yz2 zz2
  have X2 : Stand p l e ({ frames := 2, cells := 1, slots := 0, locals := 32 } : Room) s m #[(.ref a1), (.int q)] below meth c T2 _ 0 0 := X2
  obtain ⟨hvq2, Nq2, ez2⟩ := hQ2
  rw [hvq2] at st2
  have N2 := Fr.app N0 Nq2
  refine OGo.st st2 ?_
  show OGo p.tables e below _ (T2.setTop (mkF m 8 #[.val (.ref a1), .val (.int q), .unset] [(.int (own_bs d0 d1 d2 q))]))
  refine OGo.st (fun _ k_ => XS.istoreN X2.here hx rfl (hb hby own_d_prog_51_method_2_code_8) rfl (l' := #[.val (.ref a1), .val (.int q), .val (.int (own_bs d0 d1 d2 q))]) rfl k_) ?_
  show OGo p.tables e below _ (T2.setTop (mkF m 9 #[.val (.ref a1), .val (.int q), .val (.int (own_bs d0 d1 d2 q))] []))
  refine OGo.st (fun _ k_ => XS.iloadN X2.here hx rfl (hb hby own_d_prog_51_method_2_code_9) rfl k_) ?_
  show OGo p.tables e below _ (T2.setTop (mkF m 10 #[.val (.ref a1), .val (.int q), .val (.int (own_bs d0 d1 d2 q))] [(.int (own_bs d0 d1 d2 q))]))
  refine OGo.st (fun _ k_ => XS.ifNo X2.here hx rfl (hb hby own_d_prog_51_method_2_code_10) rfl (XT.i0_ge_f hneg) k_) ?_
  show OGo p.tables e below _ (T2.setTop (mkF m 13 #[.val (.ref a1), .val (.int q), .val (.int (own_bs d0 d1 d2 q))] []))
  refine OGo.st (fun _ k_ => XS.iconst X2.here hx rfl (hb hby own_d_prog_51_method_2_code_13) k_) ?_
  show OGo p.tables e below _ (T2.setTop (mkF m 14 #[.val (.ref a1), .val (.int q), .val (.int (own_bs d0 d1 d2 q))] [(.int (0 : Int32))]))
  obtain ⟨T3, hz3, kz3, X3, ez3, Ez3, Az3, st3⟩ := newP X2 hx hZ (hw _ (List.mem_of_getElem? (i := 1) rfl)) ez2 (g := (mkF m 14 #[.val (.ref a1), .val (.int q), .val (.int (own_bs d0 d1 d2 q))] [(.int (0 : Int32))])) rfl (hb hby own_d_prog_51_method_2_code_14) rfl (by decide) (cap := 0) (by decide) (by decide) (by decide) (by decide)
  obtain ⟨bz3, g3⟩ : ∃ z, z = h0.size := ⟨_, rfl⟩
  rw [← g3] at Az3 st3
  have lt_a1_bz3 : @LT.lt Nat instLTNat a1 bz3 := Nat.lt_of_lt_of_le F_documents_a1.lt (Nat.le_of_eq g3.symm)
  have lt_c1_bz3 : @LT.lt Nat instLTNat c1 bz3 := Nat.lt_of_lt_of_le A_c1.lt (Nat.le_of_eq g3.symm)
  have lt_c2_bz3 : @LT.lt Nat instLTNat c2 bz3 := Nat.lt_of_lt_of_le A_c2.lt (Nat.le_of_eq g3.symm)
  have lt_c3_bz3 : @LT.lt Nat instLTNat c3 bz3 := Nat.lt_of_lt_of_le A_c3.lt (Nat.le_of_eq g3.symm)
  have g_bz3 : n0 ≤ bz3 := Nat.le_trans (Nat.le_trans Z0 (Keep.refl h0 []).1) (Nat.le_of_eq g3.symm)
  have sz_bz3 : h0.size ≤ bz3 := Nat.le_trans (Keep.refl h0 []).1 (Nat.le_of_eq g3.symm)
  have F_4 := F_documents_a1.ext Ez3
  have F_5 := F_starts_a1.ext Ez3
  have F_6 := F_positions_a1.ext Ez3
  have Af_7 := A_c1.ext Ez3
  have Af_8 := A_c2.ext Ez3
  have Af_9 := A_c3.ext Ez3
  have K_10 : Keep h0 hz3 [] := (Keep.refl h0 []).ext Ez3
  have V_bz3 : Arf Z hz3 bz3 kz3 .int (0 : Int32) (fun _ => (.int (0 : Int32))) := own_new Az3 (by decide)
  refine OGo.st st3 ?_
  show OGo p.tables e below _ (T3.setTop (mkF m 16 #[.val (.ref a1), .val (.int q), .val (.int (own_bs d0 d1 d2 q))] [(.ref bz3)]))
  refine OGo.st (fun _ k_ => XS.goto X3.here hx rfl (pc0 := 16) (pc' := 40) rfl (hb hby own_d_prog_51_method_2_code_16) (by decide) (by decide) k_) ?_
  show OGo p.tables e below _ (T3.setTop (mkF m 40 #[.val (.ref a1), .val (.int q), .val (.int (own_bs d0 d1 d2 q))] [(.ref bz3)]))
  refine OGo.fin X3 (v := some (.ref bz3)) (fun h => by rw [Bd.returns] at h; cases h) hlk (fun fs hr => X3.areturnOut hx rfl Bd.returns rfl (hb hby own_d_prog_51_method_2_code_40) hr) ?_ (by decide) (by decide)
  show own_Q_rm13 Z a1 q c1 c2 c3 k1 k2 k3 d0 d1 d2 s1 s2 s3 g h0 n0 _ T3.heap _
  rw [ez3]
  exact ⟨_, _, rfl, N2, K_10, sz_bz3, V_bz3⟩
theorem own_ef_rm14 (m : MethodId) (x0 : Addr) (x1 : Int32) : entryFrame m #[(.ref x0), (.int x1)] 3 = mkF m 0 #[.val (.ref x0), .val (.int x1), .unset] [] := by first | (simp [entryFrame, mkF, argsToLocals, Value.category]; done) | rfl
def own_Q_rm14 (Z : State) (a1 : Addr) (q : Int32) (c1 c2 c3 : Addr) (k1 k2 k3 : ClassId) (f1 : Nat → Value) (h0 : Heap) (n0 : Nat) (v : Option Value) (h : Heap) (L : List Loc) : Prop := ∃ (r : Addr) (k : ClassId), v = some (.ref r) ∧ Fr n0 L ∧ Keep h0 h [] ∧ h0.size ≤ r ∧ Arf Z h r k .int 0 (fun _ => .int 0)
set_option maxRecDepth 65536 in
set_option maxHeartbeats 40000000 in
theorem rm14 (l : Launch) (Z : State) (a0 : Array Value) (hw : ∀ d ∈ tables_1, d.before a0 Z = true) (ws : List Jvm.Cond) (a1 : Addr) (q : Int32) (c1 c2 c3 : Addr) (k1 k2 k3 : ClassId) (f1 : Nat → Value) (h0 : Heap) (n0 : Nat) (Z0 : n0 ≤ h0.size) (F_documents_a1 : Fld Z h0 a1 "com/example/cari/cari/index/Positions" "documents" "[I" (.ref c1)) (A_c1 : Arf Z h0 c1 k1 .int 0 f1) :
    OMet l Z (⟨"com/example/cari/cari/index/Positions", "in", "(I)[I"⟩ : MethodName) prog_51_method_2_code 3 (some (.array .int)) ws ({ frames := 2, cells := 1, slots := 0, locals := 32 } : Room) #[(.ref a1), (.int q)] h0 (own_Q_rm14 Z a1 q c1 c2 c3 k1 k2 k3 f1 h0 n0) := by
  refine MetFree.of_bodySF (plainFor_of_name own_pn1) hisR ?_
  intro p e s m args below meth c s₁ Bd hml0 hP hK
  obtain ⟨rfl, hZ, hh⟩ := hP
  have hx := Bd.exec
  have hby := Bd.bytes
  have hml : c.maxLocals = 3 := hml0
  have hown : s.vm.findClass "com/example/cari/cari/index/Positions" = some m.cls := findClass_of_methodNamed Bd.named
  have hnm := (name_of_methodNamed Bd.named Bd.method).1
  have hlk : meth.locks = false := Bd.notSynchronized
  have X0 : Stand p l e ({ frames := 2, cells := 1, slots := 0, locals := 32 } : Room) s m #[(.ref a1), (.int q)] below meth c s₁ [] 0 0 := Stand.of_body Bd
  have e0 : s₁.heap = h0 := by rw [← hh, Bd.state]; rfl
  have N0 := Fr.nil n0
  refine OGo.enter (P := OPost s (own_Q_rm14 Z a1 q c1 c2 c3 k1 k2 k3 f1 h0 n0) 1 0) (own_ef_rm14 m a1 q) ?_
  show OGo p.tables e below _ (s₁.setTop (mkF m 0 #[.val (.ref a1), .val (.int q), .unset] []))
  refine OGo.st (fun _ k_ => XS.aloadN X0.here hx rfl (hb hby own_d_prog_51_method_2_code_0) rfl rfl k_) ?_
  show OGo p.tables e below _ (s₁.setTop (mkF m 1 #[.val (.ref a1), .val (.int q), .unset] [(.ref a1)]))
  obtain ⟨T1, X1, ez1, st1⟩ := getF X0 hx hZ hown (host := "") (Or.inl (hw _ (List.mem_of_getElem? (i := 11) rfl))) Via.refl e0 F_documents_a1 (g := (mkF m 1 #[.val (.ref a1), .val (.int q), .unset] [(.ref a1)])) rfl rfl (hb hby own_d_prog_51_method_2_code_1)
  refine OGo.st st1 ?_
  show OGo p.tables e below _ (T1.setTop (mkF m 4 #[.val (.ref a1), .val (.int q), .unset] [(.ref c1)]))
  refine OGo.st (fun _ k_ => XS.iloadN X1.here hx rfl (hb hby own_d_prog_51_method_2_code_4) rfl k_) ?_
  show OGo p.tables e below _ (T1.setTop (mkF m 5 #[.val (.ref a1), .val (.int q), .unset] [(.int q), (.ref c1)]))
  obtain ⟨_, _, ⟨T2, Lz2, kz2, nz2⟩, -, X2, ⟨Lc2, hQ2, lz2, yz2, zz2⟩, st2⟩ := Jvm.LawKit.callS X1 hx (y := (⟨"java/util/Arrays", "binarySearch", "([II)I"⟩ : MethodName)) hown (mvT hZ (hw _ (List.mem_of_getElem? (i := 22) rfl))) (mvT hZ (hw _ (List.mem_of_getElem? (i := 23) rfl))) (mvT hZ (hw _ (List.mem_of_getElem? (i := 24) rfl))) (mvT hZ (hw _ (List.mem_of_getElem? (i := 25) rfl))) (by decide) (backOf (W := 0) (rm8 l Z a0 hw [] c1 q k1 f1 h0 n0 (Nat.le_trans Z0 (Keep.refl h0 []).1) A_c1) hZ (hw _ (List.mem_of_getElem? (i := 25) rfl)) (hw _ (List.mem_of_getElem? (i := 24) rfl)) (by decide) (by decide)) (g := (mkF m 5 #[.val (.ref a1), .val (.int q), .unset] [(.int q), (.ref c1)])) rfl (by rw [hml]; rfl) (argsL := [(.ref c1), (.int q)]) (rest := []) (lenOf own_pd4 rfl) rfl (by show 2 * 0 + _ ≤ _; exact Nat.le_of_eq rfl) (hb hby own_d_prog_51_method_2_code_5) (fun _ _ => ⟨rfl, ez1, (by decide : 0 + 0 ≤ _), (by decide : 0 + 0 ≤ _)⟩)
  dsimp only [Pt.U, Pt.locs, Pt.cells, Pt.slots] at X2 lz2 yz2 zz2 st2 hQ2
  have X2 := own_reb X2 lz2 yz2 zz2
  have X2 : Stand p l e ({ frames := 2, cells := 1, slots := 0, locals := 32 } : Room) s m #[(.ref a1), (.int q)] below meth c T2 _ 0 0 := X2
  obtain ⟨hvq2, Nq2, ez2⟩ := hQ2
  rw [hvq2] at st2
  have N2 := Fr.app N0 Nq2
  refine OGo.st st2 ?_
  show OGo p.tables e below _ (T2.setTop (mkF m 8 #[.val (.ref a1), .val (.int q), .unset] [(.int (-1 : Int32))]))
  refine OGo.st (fun _ k_ => XS.istoreN X2.here hx rfl (hb hby own_d_prog_51_method_2_code_8) rfl (l' := #[.val (.ref a1), .val (.int q), .val (.int (-1 : Int32))]) rfl k_) ?_
  show OGo p.tables e below _ (T2.setTop (mkF m 9 #[.val (.ref a1), .val (.int q), .val (.int (-1 : Int32))] []))
  refine OGo.st (fun _ k_ => XS.iloadN X2.here hx rfl (hb hby own_d_prog_51_method_2_code_9) rfl k_) ?_
  show OGo p.tables e below _ (T2.setTop (mkF m 10 #[.val (.ref a1), .val (.int q), .val (.int (-1 : Int32))] [(.int (-1 : Int32))]))
  refine OGo.st (fun _ k_ => XS.ifNo X2.here hx rfl (hb hby own_d_prog_51_method_2_code_10) rfl (XT.i0_ge_f (by decide)) k_) ?_
  show OGo p.tables e below _ (T2.setTop (mkF m 13 #[.val (.ref a1), .val (.int q), .val (.int (-1 : Int32))] []))
  refine OGo.st (fun _ k_ => XS.iconst X2.here hx rfl (hb hby own_d_prog_51_method_2_code_13) k_) ?_
  show OGo p.tables e below _ (T2.setTop (mkF m 14 #[.val (.ref a1), .val (.int q), .val (.int (-1 : Int32))] [(.int (0 : Int32))]))
  obtain ⟨T3, hz3, kz3, X3, ez3, Ez3, Az3, st3⟩ := newP X2 hx hZ (hw _ (List.mem_of_getElem? (i := 1) rfl)) ez2 (g := (mkF m 14 #[.val (.ref a1), .val (.int q), .val (.int (-1 : Int32))] [(.int (0 : Int32))])) rfl (hb hby own_d_prog_51_method_2_code_14) rfl (by decide) (cap := 0) (by decide) (by decide) (by decide) (by decide)
  obtain ⟨bz3, g3⟩ : ∃ z, z = h0.size := ⟨_, rfl⟩
  rw [← g3] at Az3 st3
  have lt_a1_bz3 : @LT.lt Nat instLTNat a1 bz3 := Nat.lt_of_lt_of_le F_documents_a1.lt (Nat.le_of_eq g3.symm)
  have lt_c1_bz3 : @LT.lt Nat instLTNat c1 bz3 := Nat.lt_of_lt_of_le A_c1.lt (Nat.le_of_eq g3.symm)
  have g_bz3 : n0 ≤ bz3 := Nat.le_trans (Nat.le_trans Z0 (Keep.refl h0 []).1) (Nat.le_of_eq g3.symm)
  have sz_bz3 : h0.size ≤ bz3 := Nat.le_trans (Keep.refl h0 []).1 (Nat.le_of_eq g3.symm)
  have F_4 := F_documents_a1.ext Ez3
  have Af_5 := A_c1.ext Ez3
  have K_6 : Keep h0 hz3 [] := (Keep.refl h0 []).ext Ez3
  have V_bz3 : Arf Z hz3 bz3 kz3 .int (0 : Int32) (fun _ => (.int (0 : Int32))) := own_new Az3 (by decide)
  refine OGo.st st3 ?_
  show OGo p.tables e below _ (T3.setTop (mkF m 16 #[.val (.ref a1), .val (.int q), .val (.int (-1 : Int32))] [(.ref bz3)]))
  refine OGo.st (fun _ k_ => XS.goto X3.here hx rfl (pc0 := 16) (pc' := 40) rfl (hb hby own_d_prog_51_method_2_code_16) (by decide) (by decide) k_) ?_
  show OGo p.tables e below _ (T3.setTop (mkF m 40 #[.val (.ref a1), .val (.int q), .val (.int (-1 : Int32))] [(.ref bz3)]))
  refine OGo.fin X3 (v := some (.ref bz3)) (fun h => by rw [Bd.returns] at h; cases h) hlk (fun fs hr => X3.areturnOut hx rfl Bd.returns rfl (hb hby own_d_prog_51_method_2_code_40) hr) ?_ (by decide) (by decide)
  show own_Q_rm14 Z a1 q c1 c2 c3 k1 k2 k3 f1 h0 n0 _ T3.heap _
  rw [ez3]
  exact ⟨_, _, rfl, N2, K_6, sz_bz3, V_bz3⟩
theorem own_d_method_3_code_0 : decode method_3_code 0 = .ok (.iload_n 3, 1) := by decide +kernel
theorem own_d_method_3_code_1 : decode method_3_code 1 = .ok (.ifCond .le 14, 3) := by decide +kernel
theorem own_d_method_3_code_4 : decode method_3_code 4 = .ok (.aload_n 0, 1) := by decide +kernel
theorem own_d_method_3_code_5 : decode method_3_code 5 = .ok (.iconst 0, 1) := by decide +kernel
theorem own_d_method_3_code_6 : decode method_3_code 6 = .ok (.iaload, 1) := by decide +kernel
theorem own_d_method_3_code_7 : decode method_3_code 7 = .ok (.aload_n 1, 1) := by decide +kernel
theorem own_d_method_3_code_8 : decode method_3_code 8 = .ok (.iload_n 2, 1) := by decide +kernel
theorem own_d_method_3_code_9 : decode method_3_code 9 = .ok (.iaload, 1) := by decide +kernel
theorem own_d_method_3_code_10 : decode method_3_code 10 = .ok (.if_icmp .eq 5, 3) := by decide +kernel
theorem own_d_method_3_code_15 : decode method_3_code 15 = .ok (.iload_n 3, 1) := by decide +kernel
theorem own_d_method_3_code_16 : decode method_3_code 16 = .ok (.iconst 1, 1) := by decide +kernel
theorem own_d_method_3_code_17 : decode method_3_code 17 = .ok (.if_icmp .le 16, 3) := by decide +kernel
theorem own_d_method_3_code_20 : decode method_3_code 20 = .ok (.aload_n 0, 1) := by decide +kernel
theorem own_d_method_3_code_21 : decode method_3_code 21 = .ok (.iconst 1, 1) := by decide +kernel
theorem own_d_method_3_code_22 : decode method_3_code 22 = .ok (.iaload, 1) := by decide +kernel
theorem own_d_method_3_code_23 : decode method_3_code 23 = .ok (.aload_n 1, 1) := by decide +kernel
theorem own_d_method_3_code_24 : decode method_3_code 24 = .ok (.iload_n 2, 1) := by decide +kernel
theorem own_d_method_3_code_25 : decode method_3_code 25 = .ok (.iconst 1, 1) := by decide +kernel
theorem own_d_method_3_code_26 : decode method_3_code 26 = .ok (.iadd, 1) := by decide +kernel
theorem own_d_method_3_code_27 : decode method_3_code 27 = .ok (.iaload, 1) := by decide +kernel
theorem own_d_method_3_code_28 : decode method_3_code 28 = .ok (.if_icmp .eq 5, 3) := by decide +kernel
theorem own_d_method_3_code_33 : decode method_3_code 33 = .ok (.iload_n 3, 1) := by decide +kernel
theorem own_d_method_3_code_34 : decode method_3_code 34 = .ok (.iconst 2, 1) := by decide +kernel
theorem own_d_method_3_code_35 : decode method_3_code 35 = .ok (.if_icmp .le 16, 3) := by decide +kernel
theorem own_d_method_3_code_38 : decode method_3_code 38 = .ok (.aload_n 0, 1) := by decide +kernel
theorem own_d_method_3_code_39 : decode method_3_code 39 = .ok (.iconst 2, 1) := by decide +kernel
theorem own_d_method_3_code_40 : decode method_3_code 40 = .ok (.iaload, 1) := by decide +kernel
theorem own_d_method_3_code_41 : decode method_3_code 41 = .ok (.aload_n 1, 1) := by decide +kernel
theorem own_d_method_3_code_42 : decode method_3_code 42 = .ok (.iload_n 2, 1) := by decide +kernel
theorem own_d_method_3_code_43 : decode method_3_code 43 = .ok (.iconst 2, 1) := by decide +kernel
theorem own_d_method_3_code_44 : decode method_3_code 44 = .ok (.iadd, 1) := by decide +kernel
theorem own_d_method_3_code_45 : decode method_3_code 45 = .ok (.iaload, 1) := by decide +kernel
theorem own_d_method_3_code_46 : decode method_3_code 46 = .ok (.if_icmp .eq 5, 3) := by decide +kernel
theorem own_d_method_3_code_51 : decode method_3_code 51 = .ok (.iconst 1, 1) := by decide +kernel
theorem own_d_method_3_code_52 : decode method_3_code 52 = .ok (.ireturn, 1) := by decide +kernel
theorem own_pn2 : plainName "com/example/cari/cari/index/PositionsInPinLaw" = true := by first | (simp [plainName, overriddenIn]; done) | decide +kernel
theorem own_ef_rm15 (m : MethodId) (x0 : Addr) (x1 : Addr) (x2 : Int32) (x3 : Int32) : entryFrame m #[(.ref x0), (.ref x1), (.int x2), (.int x3)] 4 = mkF m 0 #[.val (.ref x0), .val (.ref x1), .val (.int x2), .val (.int x3)] [] := by first | (simp [entryFrame, mkF, argsToLocals, Value.category]; done) | rfl
def own_Q_rm15 (Z : State) (c1 c2 : Addr) (lo len : Int32) (k1 k2 : ClassId) (g : Nat → Int32) (f : Nat → Value) (h0 : Heap) (n0 : Nat) (v : Option Value) (h : Heap) (L : List Loc) : Prop := v = some (.int 1) ∧ Fr n0 L ∧ h = h0
set_option maxRecDepth 65536 in
set_option maxHeartbeats 40000000 in
theorem rm15 (l : Launch) (Z : State) (a0 : Array Value) (hw : ∀ d ∈ tables_1, d.before a0 Z = true) (ws : List Jvm.Cond) (c1 c2 : Addr) (lo len : Int32) (k1 k2 : ClassId) (g : Nat → Int32) (f : Nat → Value) (h0 : Heap) (n0 : Nat) (Z0 : n0 ≤ h0.size) (A_c1 : Arf Z h0 c1 k1 .int len f) (A_c2 : Arf Z h0 c2 k2 .int 9 (own_P g)) (hf : ∀ i, i < len.toNatClampNeg → f i = own_P g (lo.toNatClampNeg + i)) (hl : own_in9 lo len) :
    OMet l Z (⟨"com/example/cari/cari/index/PositionsInPinLaw", "same", "([I[III)Z"⟩ : MethodName) method_3_code 4 (some .boolean) ws ({ frames := 0, cells := 0, slots := 0, locals := 0 } : Room) #[(.ref c1), (.ref c2), (.int lo), (.int len)] h0 (own_Q_rm15 Z c1 c2 lo len k1 k2 g f h0 n0) := by
  refine MetFree.of_bodySF (plainFor_of_name own_pn2) hisR ?_
  intro p e s m args below meth c s₁ Bd hml0 hP hK
  obtain ⟨rfl, hZ, hh⟩ := hP
  have hx := Bd.exec
  have hby := Bd.bytes
  have hml : c.maxLocals = 4 := hml0
  have hown : s.vm.findClass "com/example/cari/cari/index/PositionsInPinLaw" = some m.cls := findClass_of_methodNamed Bd.named
  have hnm := (name_of_methodNamed Bd.named Bd.method).1
  have hlk : meth.locks = false := Bd.notSynchronized
  have X0 : Stand p l e ({ frames := 0, cells := 0, slots := 0, locals := 0 } : Room) s m #[(.ref c1), (.ref c2), (.int lo), (.int len)] below meth c s₁ [] 0 0 := Stand.of_body Bd
  have e0 : s₁.heap = h0 := by rw [← hh, Bd.state]; rfl
  have N0 := Fr.nil n0
  refine OGo.enter (P := OPost s (own_Q_rm15 Z c1 c2 lo len k1 k2 g f h0 n0) 0 0) (own_ef_rm15 m c1 c2 lo len) ?_
  show OGo p.tables e below _ (s₁.setTop (mkF m 0 #[.val (.ref c1), .val (.ref c2), .val (.int lo), .val (.int len)] []))
  refine OGo.st (fun _ k_ => XS.iloadN X0.here hx rfl (hb hby own_d_method_3_code_0) rfl k_) ?_
  show OGo p.tables e below _ (s₁.setTop (mkF m 1 #[.val (.ref c1), .val (.ref c2), .val (.int lo), .val (.int len)] [(.int len)]))
  by_cases hc1 : 0 < len
  · refine OGo.st (fun _ k_ => XS.ifNo X0.here hx rfl (hb hby own_d_method_3_code_1) rfl (XT.i0_le_f hc1) k_) ?_
    show OGo p.tables e below _ (s₁.setTop (mkF m 4 #[.val (.ref c1), .val (.ref c2), .val (.int lo), .val (.int len)] []))
    refine OGo.st (fun _ k_ => XS.aloadN X0.here hx rfl (hb hby own_d_method_3_code_4) rfl rfl k_) ?_
    show OGo p.tables e below _ (s₁.setTop (mkF m 5 #[.val (.ref c1), .val (.ref c2), .val (.int lo), .val (.int len)] [(.ref c1)]))
    refine OGo.st (fun _ k_ => XS.iconst X0.here hx rfl (hb hby own_d_method_3_code_5) k_) ?_
    show OGo p.tables e below _ (s₁.setTop (mkF m 6 #[.val (.ref c1), .val (.ref c2), .val (.int lo), .val (.int len)] [(.int (0 : Int32)), (.ref c1)]))
    have qz1 := own_ldI X0 hx hZ e0 A_c1 (j := (0 : Int32)) (v := (g (lo.toNatClampNeg + 0))) (own_i0 hc1) (hf 0 (own_j0 hc1)) (g := (mkF m 6 #[.val (.ref c1), .val (.ref c2), .val (.int lo), .val (.int len)] [(.int (0 : Int32)), (.ref c1)])) rfl rfl (hb hby own_d_method_3_code_6)
    refine OGo.st qz1 ?_
    show OGo p.tables e below _ (s₁.setTop (mkF m 7 #[.val (.ref c1), .val (.ref c2), .val (.int lo), .val (.int len)] [(.int (g (lo.toNatClampNeg + 0)))]))
    refine OGo.st (fun _ k_ => XS.aloadN X0.here hx rfl (hb hby own_d_method_3_code_7) rfl rfl k_) ?_
    show OGo p.tables e below _ (s₁.setTop (mkF m 8 #[.val (.ref c1), .val (.ref c2), .val (.int lo), .val (.int len)] [(.ref c2), (.int (g (lo.toNatClampNeg + 0)))]))
    refine OGo.st (fun _ k_ => XS.iloadN X0.here hx rfl (hb hby own_d_method_3_code_8) rfl k_) ?_
    show OGo p.tables e below _ (s₁.setTop (mkF m 9 #[.val (.ref c1), .val (.ref c2), .val (.int lo), .val (.int len)] [(.int lo), (.ref c2), (.int (g (lo.toNatClampNeg + 0)))]))
    have qz2 := own_ldI X0 hx hZ e0 A_c2 (j := lo) (v := (g (lo.toNatClampNeg + 0))) (hl.in0 hc1) (hl.at0 hc1 g) (g := (mkF m 9 #[.val (.ref c1), .val (.ref c2), .val (.int lo), .val (.int len)] [(.int lo), (.ref c2), (.int (g (lo.toNatClampNeg + 0)))])) rfl rfl (hb hby own_d_method_3_code_9)
    refine OGo.st qz2 ?_
    show OGo p.tables e below _ (s₁.setTop (mkF m 10 #[.val (.ref c1), .val (.ref c2), .val (.int lo), .val (.int len)] [(.int (g (lo.toNatClampNeg + 0))), (.int (g (lo.toNatClampNeg + 0)))]))
    refine OGo.st (fun _ k_ => XS.icmpYes X0.here hx rfl (pc0 := 10) (pc' := 15) rfl (hb hby own_d_method_3_code_10) rfl (XT.ii_eq_t rfl) (by decide) (by decide) k_) ?_
    show OGo p.tables e below _ (s₁.setTop (mkF m 15 #[.val (.ref c1), .val (.ref c2), .val (.int lo), .val (.int len)] []))
    refine OGo.st (fun _ k_ => XS.iloadN X0.here hx rfl (hb hby own_d_method_3_code_15) rfl k_) ?_
    show OGo p.tables e below _ (s₁.setTop (mkF m 16 #[.val (.ref c1), .val (.ref c2), .val (.int lo), .val (.int len)] [(.int len)]))
    refine OGo.st (fun _ k_ => XS.iconst X0.here hx rfl (hb hby own_d_method_3_code_16) k_) ?_
    show OGo p.tables e below _ (s₁.setTop (mkF m 17 #[.val (.ref c1), .val (.ref c2), .val (.int lo), .val (.int len)] [(.int (1 : Int32)), (.int len)]))
    by_cases hc17 : (1 : Int32) < len
    · refine OGo.st (fun _ k_ => XS.icmpNo X0.here hx rfl (hb hby own_d_method_3_code_17) rfl (XT.ii_le_f hc17) k_) ?_
      show OGo p.tables e below _ (s₁.setTop (mkF m 20 #[.val (.ref c1), .val (.ref c2), .val (.int lo), .val (.int len)] []))
      refine OGo.st (fun _ k_ => XS.aloadN X0.here hx rfl (hb hby own_d_method_3_code_20) rfl rfl k_) ?_
      show OGo p.tables e below _ (s₁.setTop (mkF m 21 #[.val (.ref c1), .val (.ref c2), .val (.int lo), .val (.int len)] [(.ref c1)]))
      refine OGo.st (fun _ k_ => XS.iconst X0.here hx rfl (hb hby own_d_method_3_code_21) k_) ?_
      show OGo p.tables e below _ (s₁.setTop (mkF m 22 #[.val (.ref c1), .val (.ref c2), .val (.int lo), .val (.int len)] [(.int (1 : Int32)), (.ref c1)]))
      have qz3 := own_ldI X0 hx hZ e0 A_c1 (j := (1 : Int32)) (v := (g (lo.toNatClampNeg + 1))) (own_i1 hc17) (hf 1 (own_j1 hc17)) (g := (mkF m 22 #[.val (.ref c1), .val (.ref c2), .val (.int lo), .val (.int len)] [(.int (1 : Int32)), (.ref c1)])) rfl rfl (hb hby own_d_method_3_code_22)
      refine OGo.st qz3 ?_
      show OGo p.tables e below _ (s₁.setTop (mkF m 23 #[.val (.ref c1), .val (.ref c2), .val (.int lo), .val (.int len)] [(.int (g (lo.toNatClampNeg + 1)))]))
      refine OGo.st (fun _ k_ => XS.aloadN X0.here hx rfl (hb hby own_d_method_3_code_23) rfl rfl k_) ?_
      show OGo p.tables e below _ (s₁.setTop (mkF m 24 #[.val (.ref c1), .val (.ref c2), .val (.int lo), .val (.int len)] [(.ref c2), (.int (g (lo.toNatClampNeg + 1)))]))
      refine OGo.st (fun _ k_ => XS.iloadN X0.here hx rfl (hb hby own_d_method_3_code_24) rfl k_) ?_
      show OGo p.tables e below _ (s₁.setTop (mkF m 25 #[.val (.ref c1), .val (.ref c2), .val (.int lo), .val (.int len)] [(.int lo), (.ref c2), (.int (g (lo.toNatClampNeg + 1)))]))
      refine OGo.st (fun _ k_ => XS.iconst X0.here hx rfl (hb hby own_d_method_3_code_25) k_) ?_
      show OGo p.tables e below _ (s₁.setTop (mkF m 26 #[.val (.ref c1), .val (.ref c2), .val (.int lo), .val (.int len)] [(.int (1 : Int32)), (.int lo), (.ref c2), (.int (g (lo.toNatClampNeg + 1)))]))
      refine OGo.st (fun _ k_ => XS.iadd X0.here hx rfl (hb hby own_d_method_3_code_26) rfl k_) ?_
      show OGo p.tables e below _ (s₁.setTop (mkF m 27 #[.val (.ref c1), .val (.ref c2), .val (.int lo), .val (.int len)] [(.int (lo + (1 : Int32))), (.ref c2), (.int (g (lo.toNatClampNeg + 1)))]))
      have qz4 := own_ldI X0 hx hZ e0 A_c2 (j := (lo + (1 : Int32))) (v := (g (lo.toNatClampNeg + 1))) (hl.in1 hc17) (hl.at1 hc17 g) (g := (mkF m 27 #[.val (.ref c1), .val (.ref c2), .val (.int lo), .val (.int len)] [(.int (lo + (1 : Int32))), (.ref c2), (.int (g (lo.toNatClampNeg + 1)))])) rfl rfl (hb hby own_d_method_3_code_27)
      refine OGo.st qz4 ?_
      show OGo p.tables e below _ (s₁.setTop (mkF m 28 #[.val (.ref c1), .val (.ref c2), .val (.int lo), .val (.int len)] [(.int (g (lo.toNatClampNeg + 1))), (.int (g (lo.toNatClampNeg + 1)))]))
      refine OGo.st (fun _ k_ => XS.icmpYes X0.here hx rfl (pc0 := 28) (pc' := 33) rfl (hb hby own_d_method_3_code_28) rfl (XT.ii_eq_t rfl) (by decide) (by decide) k_) ?_
      show OGo p.tables e below _ (s₁.setTop (mkF m 33 #[.val (.ref c1), .val (.ref c2), .val (.int lo), .val (.int len)] []))
      refine OGo.st (fun _ k_ => XS.iloadN X0.here hx rfl (hb hby own_d_method_3_code_33) rfl k_) ?_
      show OGo p.tables e below _ (s₁.setTop (mkF m 34 #[.val (.ref c1), .val (.ref c2), .val (.int lo), .val (.int len)] [(.int len)]))
      refine OGo.st (fun _ k_ => XS.iconst X0.here hx rfl (hb hby own_d_method_3_code_34) k_) ?_
      show OGo p.tables e below _ (s₁.setTop (mkF m 35 #[.val (.ref c1), .val (.ref c2), .val (.int lo), .val (.int len)] [(.int (2 : Int32)), (.int len)]))
      by_cases hc35 : (2 : Int32) < len
      · refine OGo.st (fun _ k_ => XS.icmpNo X0.here hx rfl (hb hby own_d_method_3_code_35) rfl (XT.ii_le_f hc35) k_) ?_
        show OGo p.tables e below _ (s₁.setTop (mkF m 38 #[.val (.ref c1), .val (.ref c2), .val (.int lo), .val (.int len)] []))
        refine OGo.st (fun _ k_ => XS.aloadN X0.here hx rfl (hb hby own_d_method_3_code_38) rfl rfl k_) ?_
        show OGo p.tables e below _ (s₁.setTop (mkF m 39 #[.val (.ref c1), .val (.ref c2), .val (.int lo), .val (.int len)] [(.ref c1)]))
        refine OGo.st (fun _ k_ => XS.iconst X0.here hx rfl (hb hby own_d_method_3_code_39) k_) ?_
        show OGo p.tables e below _ (s₁.setTop (mkF m 40 #[.val (.ref c1), .val (.ref c2), .val (.int lo), .val (.int len)] [(.int (2 : Int32)), (.ref c1)]))
        have qz5 := own_ldI X0 hx hZ e0 A_c1 (j := (2 : Int32)) (v := (g (lo.toNatClampNeg + 2))) (own_i2 hc35) (hf 2 (own_j2 hc35)) (g := (mkF m 40 #[.val (.ref c1), .val (.ref c2), .val (.int lo), .val (.int len)] [(.int (2 : Int32)), (.ref c1)])) rfl rfl (hb hby own_d_method_3_code_40)
        refine OGo.st qz5 ?_
        show OGo p.tables e below _ (s₁.setTop (mkF m 41 #[.val (.ref c1), .val (.ref c2), .val (.int lo), .val (.int len)] [(.int (g (lo.toNatClampNeg + 2)))]))
        refine OGo.st (fun _ k_ => XS.aloadN X0.here hx rfl (hb hby own_d_method_3_code_41) rfl rfl k_) ?_
        show OGo p.tables e below _ (s₁.setTop (mkF m 42 #[.val (.ref c1), .val (.ref c2), .val (.int lo), .val (.int len)] [(.ref c2), (.int (g (lo.toNatClampNeg + 2)))]))
        refine OGo.st (fun _ k_ => XS.iloadN X0.here hx rfl (hb hby own_d_method_3_code_42) rfl k_) ?_
        show OGo p.tables e below _ (s₁.setTop (mkF m 43 #[.val (.ref c1), .val (.ref c2), .val (.int lo), .val (.int len)] [(.int lo), (.ref c2), (.int (g (lo.toNatClampNeg + 2)))]))
        refine OGo.st (fun _ k_ => XS.iconst X0.here hx rfl (hb hby own_d_method_3_code_43) k_) ?_
        show OGo p.tables e below _ (s₁.setTop (mkF m 44 #[.val (.ref c1), .val (.ref c2), .val (.int lo), .val (.int len)] [(.int (2 : Int32)), (.int lo), (.ref c2), (.int (g (lo.toNatClampNeg + 2)))]))
        refine OGo.st (fun _ k_ => XS.iadd X0.here hx rfl (hb hby own_d_method_3_code_44) rfl k_) ?_
        show OGo p.tables e below _ (s₁.setTop (mkF m 45 #[.val (.ref c1), .val (.ref c2), .val (.int lo), .val (.int len)] [(.int (lo + (2 : Int32))), (.ref c2), (.int (g (lo.toNatClampNeg + 2)))]))
        have qz6 := own_ldI X0 hx hZ e0 A_c2 (j := (lo + (2 : Int32))) (v := (g (lo.toNatClampNeg + 2))) (hl.in2 hc35) (hl.at2 hc35 g) (g := (mkF m 45 #[.val (.ref c1), .val (.ref c2), .val (.int lo), .val (.int len)] [(.int (lo + (2 : Int32))), (.ref c2), (.int (g (lo.toNatClampNeg + 2)))])) rfl rfl (hb hby own_d_method_3_code_45)
        refine OGo.st qz6 ?_
        show OGo p.tables e below _ (s₁.setTop (mkF m 46 #[.val (.ref c1), .val (.ref c2), .val (.int lo), .val (.int len)] [(.int (g (lo.toNatClampNeg + 2))), (.int (g (lo.toNatClampNeg + 2)))]))
        refine OGo.st (fun _ k_ => XS.icmpYes X0.here hx rfl (pc0 := 46) (pc' := 51) rfl (hb hby own_d_method_3_code_46) rfl (XT.ii_eq_t rfl) (by decide) (by decide) k_) ?_
        show OGo p.tables e below _ (s₁.setTop (mkF m 51 #[.val (.ref c1), .val (.ref c2), .val (.int lo), .val (.int len)] []))
        refine OGo.st (fun _ k_ => XS.iconst X0.here hx rfl (hb hby own_d_method_3_code_51) k_) ?_
        show OGo p.tables e below _ (s₁.setTop (mkF m 52 #[.val (.ref c1), .val (.ref c2), .val (.int lo), .val (.int len)] [(.int (1 : Int32))]))
        refine OGo.fin X0 (v := some (.int (1 : Int32))) (fun h => by rw [Bd.returns] at h; cases h) hlk (fun fs hr => X0.ireturnOut hx Bd.returns rfl (by simp) (hb hby own_d_method_3_code_52) hr) ?_ (by decide) (by decide)
        show own_Q_rm15 Z c1 c2 lo len k1 k2 g f h0 n0 _ s₁.heap _
        rw [e0]
        exact ⟨rfl, N0, rfl⟩
      · refine OGo.st (fun _ k_ => XS.icmpYes X0.here hx rfl (pc0 := 35) (pc' := 51) rfl (hb hby own_d_method_3_code_35) rfl (XT.ii_le_t hc35) (by decide) (by decide) k_) ?_
        show OGo p.tables e below _ (s₁.setTop (mkF m 51 #[.val (.ref c1), .val (.ref c2), .val (.int lo), .val (.int len)] []))
        refine OGo.st (fun _ k_ => XS.iconst X0.here hx rfl (hb hby own_d_method_3_code_51) k_) ?_
        show OGo p.tables e below _ (s₁.setTop (mkF m 52 #[.val (.ref c1), .val (.ref c2), .val (.int lo), .val (.int len)] [(.int (1 : Int32))]))
        refine OGo.fin X0 (v := some (.int (1 : Int32))) (fun h => by rw [Bd.returns] at h; cases h) hlk (fun fs hr => X0.ireturnOut hx Bd.returns rfl (by simp) (hb hby own_d_method_3_code_52) hr) ?_ (by decide) (by decide)
        show own_Q_rm15 Z c1 c2 lo len k1 k2 g f h0 n0 _ s₁.heap _
        rw [e0]
        exact ⟨rfl, N0, rfl⟩
    · refine OGo.st (fun _ k_ => XS.icmpYes X0.here hx rfl (pc0 := 17) (pc' := 33) rfl (hb hby own_d_method_3_code_17) rfl (XT.ii_le_t hc17) (by decide) (by decide) k_) ?_
      show OGo p.tables e below _ (s₁.setTop (mkF m 33 #[.val (.ref c1), .val (.ref c2), .val (.int lo), .val (.int len)] []))
      refine OGo.st (fun _ k_ => XS.iloadN X0.here hx rfl (hb hby own_d_method_3_code_33) rfl k_) ?_
      show OGo p.tables e below _ (s₁.setTop (mkF m 34 #[.val (.ref c1), .val (.ref c2), .val (.int lo), .val (.int len)] [(.int len)]))
      refine OGo.st (fun _ k_ => XS.iconst X0.here hx rfl (hb hby own_d_method_3_code_34) k_) ?_
      show OGo p.tables e below _ (s₁.setTop (mkF m 35 #[.val (.ref c1), .val (.ref c2), .val (.int lo), .val (.int len)] [(.int (2 : Int32)), (.int len)]))
      by_cases hc35 : (2 : Int32) < len
      · refine OGo.st (fun _ k_ => XS.icmpNo X0.here hx rfl (hb hby own_d_method_3_code_35) rfl (XT.ii_le_f hc35) k_) ?_
        show OGo p.tables e below _ (s₁.setTop (mkF m 38 #[.val (.ref c1), .val (.ref c2), .val (.int lo), .val (.int len)] []))
        refine OGo.st (fun _ k_ => XS.aloadN X0.here hx rfl (hb hby own_d_method_3_code_38) rfl rfl k_) ?_
        show OGo p.tables e below _ (s₁.setTop (mkF m 39 #[.val (.ref c1), .val (.ref c2), .val (.int lo), .val (.int len)] [(.ref c1)]))
        refine OGo.st (fun _ k_ => XS.iconst X0.here hx rfl (hb hby own_d_method_3_code_39) k_) ?_
        show OGo p.tables e below _ (s₁.setTop (mkF m 40 #[.val (.ref c1), .val (.ref c2), .val (.int lo), .val (.int len)] [(.int (2 : Int32)), (.ref c1)]))
        have qz7 := own_ldI X0 hx hZ e0 A_c1 (j := (2 : Int32)) (v := (g (lo.toNatClampNeg + 2))) (own_i2 hc35) (hf 2 (own_j2 hc35)) (g := (mkF m 40 #[.val (.ref c1), .val (.ref c2), .val (.int lo), .val (.int len)] [(.int (2 : Int32)), (.ref c1)])) rfl rfl (hb hby own_d_method_3_code_40)
        refine OGo.st qz7 ?_
        show OGo p.tables e below _ (s₁.setTop (mkF m 41 #[.val (.ref c1), .val (.ref c2), .val (.int lo), .val (.int len)] [(.int (g (lo.toNatClampNeg + 2)))]))
        refine OGo.st (fun _ k_ => XS.aloadN X0.here hx rfl (hb hby own_d_method_3_code_41) rfl rfl k_) ?_
        show OGo p.tables e below _ (s₁.setTop (mkF m 42 #[.val (.ref c1), .val (.ref c2), .val (.int lo), .val (.int len)] [(.ref c2), (.int (g (lo.toNatClampNeg + 2)))]))
        refine OGo.st (fun _ k_ => XS.iloadN X0.here hx rfl (hb hby own_d_method_3_code_42) rfl k_) ?_
        show OGo p.tables e below _ (s₁.setTop (mkF m 43 #[.val (.ref c1), .val (.ref c2), .val (.int lo), .val (.int len)] [(.int lo), (.ref c2), (.int (g (lo.toNatClampNeg + 2)))]))
        refine OGo.st (fun _ k_ => XS.iconst X0.here hx rfl (hb hby own_d_method_3_code_43) k_) ?_
        show OGo p.tables e below _ (s₁.setTop (mkF m 44 #[.val (.ref c1), .val (.ref c2), .val (.int lo), .val (.int len)] [(.int (2 : Int32)), (.int lo), (.ref c2), (.int (g (lo.toNatClampNeg + 2)))]))
        refine OGo.st (fun _ k_ => XS.iadd X0.here hx rfl (hb hby own_d_method_3_code_44) rfl k_) ?_
        show OGo p.tables e below _ (s₁.setTop (mkF m 45 #[.val (.ref c1), .val (.ref c2), .val (.int lo), .val (.int len)] [(.int (lo + (2 : Int32))), (.ref c2), (.int (g (lo.toNatClampNeg + 2)))]))
        have qz8 := own_ldI X0 hx hZ e0 A_c2 (j := (lo + (2 : Int32))) (v := (g (lo.toNatClampNeg + 2))) (hl.in2 hc35) (hl.at2 hc35 g) (g := (mkF m 45 #[.val (.ref c1), .val (.ref c2), .val (.int lo), .val (.int len)] [(.int (lo + (2 : Int32))), (.ref c2), (.int (g (lo.toNatClampNeg + 2)))])) rfl rfl (hb hby own_d_method_3_code_45)
        refine OGo.st qz8 ?_
        show OGo p.tables e below _ (s₁.setTop (mkF m 46 #[.val (.ref c1), .val (.ref c2), .val (.int lo), .val (.int len)] [(.int (g (lo.toNatClampNeg + 2))), (.int (g (lo.toNatClampNeg + 2)))]))
        refine OGo.st (fun _ k_ => XS.icmpYes X0.here hx rfl (pc0 := 46) (pc' := 51) rfl (hb hby own_d_method_3_code_46) rfl (XT.ii_eq_t rfl) (by decide) (by decide) k_) ?_
        show OGo p.tables e below _ (s₁.setTop (mkF m 51 #[.val (.ref c1), .val (.ref c2), .val (.int lo), .val (.int len)] []))
        refine OGo.st (fun _ k_ => XS.iconst X0.here hx rfl (hb hby own_d_method_3_code_51) k_) ?_
        show OGo p.tables e below _ (s₁.setTop (mkF m 52 #[.val (.ref c1), .val (.ref c2), .val (.int lo), .val (.int len)] [(.int (1 : Int32))]))
        refine OGo.fin X0 (v := some (.int (1 : Int32))) (fun h => by rw [Bd.returns] at h; cases h) hlk (fun fs hr => X0.ireturnOut hx Bd.returns rfl (by simp) (hb hby own_d_method_3_code_52) hr) ?_ (by decide) (by decide)
        show own_Q_rm15 Z c1 c2 lo len k1 k2 g f h0 n0 _ s₁.heap _
        rw [e0]
        exact ⟨rfl, N0, rfl⟩
      · refine OGo.st (fun _ k_ => XS.icmpYes X0.here hx rfl (pc0 := 35) (pc' := 51) rfl (hb hby own_d_method_3_code_35) rfl (XT.ii_le_t hc35) (by decide) (by decide) k_) ?_
        show OGo p.tables e below _ (s₁.setTop (mkF m 51 #[.val (.ref c1), .val (.ref c2), .val (.int lo), .val (.int len)] []))
        refine OGo.st (fun _ k_ => XS.iconst X0.here hx rfl (hb hby own_d_method_3_code_51) k_) ?_
        show OGo p.tables e below _ (s₁.setTop (mkF m 52 #[.val (.ref c1), .val (.ref c2), .val (.int lo), .val (.int len)] [(.int (1 : Int32))]))
        refine OGo.fin X0 (v := some (.int (1 : Int32))) (fun h => by rw [Bd.returns] at h; cases h) hlk (fun fs hr => X0.ireturnOut hx Bd.returns rfl (by simp) (hb hby own_d_method_3_code_52) hr) ?_ (by decide) (by decide)
        show own_Q_rm15 Z c1 c2 lo len k1 k2 g f h0 n0 _ s₁.heap _
        rw [e0]
        exact ⟨rfl, N0, rfl⟩
  · refine OGo.st (fun _ k_ => XS.ifYes X0.here hx rfl (pc0 := 1) (pc' := 15) rfl (hb hby own_d_method_3_code_1) rfl (XT.i0_le_t hc1) (by decide) (by decide) k_) ?_
    show OGo p.tables e below _ (s₁.setTop (mkF m 15 #[.val (.ref c1), .val (.ref c2), .val (.int lo), .val (.int len)] []))
    refine OGo.st (fun _ k_ => XS.iloadN X0.here hx rfl (hb hby own_d_method_3_code_15) rfl k_) ?_
    show OGo p.tables e below _ (s₁.setTop (mkF m 16 #[.val (.ref c1), .val (.ref c2), .val (.int lo), .val (.int len)] [(.int len)]))
    refine OGo.st (fun _ k_ => XS.iconst X0.here hx rfl (hb hby own_d_method_3_code_16) k_) ?_
    show OGo p.tables e below _ (s₁.setTop (mkF m 17 #[.val (.ref c1), .val (.ref c2), .val (.int lo), .val (.int len)] [(.int (1 : Int32)), (.int len)]))
    by_cases hc17 : (1 : Int32) < len
    · refine OGo.st (fun _ k_ => XS.icmpNo X0.here hx rfl (hb hby own_d_method_3_code_17) rfl (XT.ii_le_f hc17) k_) ?_
      show OGo p.tables e below _ (s₁.setTop (mkF m 20 #[.val (.ref c1), .val (.ref c2), .val (.int lo), .val (.int len)] []))
      refine OGo.st (fun _ k_ => XS.aloadN X0.here hx rfl (hb hby own_d_method_3_code_20) rfl rfl k_) ?_
      show OGo p.tables e below _ (s₁.setTop (mkF m 21 #[.val (.ref c1), .val (.ref c2), .val (.int lo), .val (.int len)] [(.ref c1)]))
      refine OGo.st (fun _ k_ => XS.iconst X0.here hx rfl (hb hby own_d_method_3_code_21) k_) ?_
      show OGo p.tables e below _ (s₁.setTop (mkF m 22 #[.val (.ref c1), .val (.ref c2), .val (.int lo), .val (.int len)] [(.int (1 : Int32)), (.ref c1)]))
      have qz9 := own_ldI X0 hx hZ e0 A_c1 (j := (1 : Int32)) (v := (g (lo.toNatClampNeg + 1))) (own_i1 hc17) (hf 1 (own_j1 hc17)) (g := (mkF m 22 #[.val (.ref c1), .val (.ref c2), .val (.int lo), .val (.int len)] [(.int (1 : Int32)), (.ref c1)])) rfl rfl (hb hby own_d_method_3_code_22)
      refine OGo.st qz9 ?_
      show OGo p.tables e below _ (s₁.setTop (mkF m 23 #[.val (.ref c1), .val (.ref c2), .val (.int lo), .val (.int len)] [(.int (g (lo.toNatClampNeg + 1)))]))
      refine OGo.st (fun _ k_ => XS.aloadN X0.here hx rfl (hb hby own_d_method_3_code_23) rfl rfl k_) ?_
      show OGo p.tables e below _ (s₁.setTop (mkF m 24 #[.val (.ref c1), .val (.ref c2), .val (.int lo), .val (.int len)] [(.ref c2), (.int (g (lo.toNatClampNeg + 1)))]))
      refine OGo.st (fun _ k_ => XS.iloadN X0.here hx rfl (hb hby own_d_method_3_code_24) rfl k_) ?_
      show OGo p.tables e below _ (s₁.setTop (mkF m 25 #[.val (.ref c1), .val (.ref c2), .val (.int lo), .val (.int len)] [(.int lo), (.ref c2), (.int (g (lo.toNatClampNeg + 1)))]))
      refine OGo.st (fun _ k_ => XS.iconst X0.here hx rfl (hb hby own_d_method_3_code_25) k_) ?_
      show OGo p.tables e below _ (s₁.setTop (mkF m 26 #[.val (.ref c1), .val (.ref c2), .val (.int lo), .val (.int len)] [(.int (1 : Int32)), (.int lo), (.ref c2), (.int (g (lo.toNatClampNeg + 1)))]))
      refine OGo.st (fun _ k_ => XS.iadd X0.here hx rfl (hb hby own_d_method_3_code_26) rfl k_) ?_
      show OGo p.tables e below _ (s₁.setTop (mkF m 27 #[.val (.ref c1), .val (.ref c2), .val (.int lo), .val (.int len)] [(.int (lo + (1 : Int32))), (.ref c2), (.int (g (lo.toNatClampNeg + 1)))]))
      have qz10 := own_ldI X0 hx hZ e0 A_c2 (j := (lo + (1 : Int32))) (v := (g (lo.toNatClampNeg + 1))) (hl.in1 hc17) (hl.at1 hc17 g) (g := (mkF m 27 #[.val (.ref c1), .val (.ref c2), .val (.int lo), .val (.int len)] [(.int (lo + (1 : Int32))), (.ref c2), (.int (g (lo.toNatClampNeg + 1)))])) rfl rfl (hb hby own_d_method_3_code_27)
      refine OGo.st qz10 ?_
      show OGo p.tables e below _ (s₁.setTop (mkF m 28 #[.val (.ref c1), .val (.ref c2), .val (.int lo), .val (.int len)] [(.int (g (lo.toNatClampNeg + 1))), (.int (g (lo.toNatClampNeg + 1)))]))
      refine OGo.st (fun _ k_ => XS.icmpYes X0.here hx rfl (pc0 := 28) (pc' := 33) rfl (hb hby own_d_method_3_code_28) rfl (XT.ii_eq_t rfl) (by decide) (by decide) k_) ?_
      show OGo p.tables e below _ (s₁.setTop (mkF m 33 #[.val (.ref c1), .val (.ref c2), .val (.int lo), .val (.int len)] []))
      refine OGo.st (fun _ k_ => XS.iloadN X0.here hx rfl (hb hby own_d_method_3_code_33) rfl k_) ?_
      show OGo p.tables e below _ (s₁.setTop (mkF m 34 #[.val (.ref c1), .val (.ref c2), .val (.int lo), .val (.int len)] [(.int len)]))
      refine OGo.st (fun _ k_ => XS.iconst X0.here hx rfl (hb hby own_d_method_3_code_34) k_) ?_
      show OGo p.tables e below _ (s₁.setTop (mkF m 35 #[.val (.ref c1), .val (.ref c2), .val (.int lo), .val (.int len)] [(.int (2 : Int32)), (.int len)]))
      by_cases hc35 : (2 : Int32) < len
      · refine OGo.st (fun _ k_ => XS.icmpNo X0.here hx rfl (hb hby own_d_method_3_code_35) rfl (XT.ii_le_f hc35) k_) ?_
        show OGo p.tables e below _ (s₁.setTop (mkF m 38 #[.val (.ref c1), .val (.ref c2), .val (.int lo), .val (.int len)] []))
        refine OGo.st (fun _ k_ => XS.aloadN X0.here hx rfl (hb hby own_d_method_3_code_38) rfl rfl k_) ?_
        show OGo p.tables e below _ (s₁.setTop (mkF m 39 #[.val (.ref c1), .val (.ref c2), .val (.int lo), .val (.int len)] [(.ref c1)]))
        refine OGo.st (fun _ k_ => XS.iconst X0.here hx rfl (hb hby own_d_method_3_code_39) k_) ?_
        show OGo p.tables e below _ (s₁.setTop (mkF m 40 #[.val (.ref c1), .val (.ref c2), .val (.int lo), .val (.int len)] [(.int (2 : Int32)), (.ref c1)]))
        have qz11 := own_ldI X0 hx hZ e0 A_c1 (j := (2 : Int32)) (v := (g (lo.toNatClampNeg + 2))) (own_i2 hc35) (hf 2 (own_j2 hc35)) (g := (mkF m 40 #[.val (.ref c1), .val (.ref c2), .val (.int lo), .val (.int len)] [(.int (2 : Int32)), (.ref c1)])) rfl rfl (hb hby own_d_method_3_code_40)
        refine OGo.st qz11 ?_
        show OGo p.tables e below _ (s₁.setTop (mkF m 41 #[.val (.ref c1), .val (.ref c2), .val (.int lo), .val (.int len)] [(.int (g (lo.toNatClampNeg + 2)))]))
        refine OGo.st (fun _ k_ => XS.aloadN X0.here hx rfl (hb hby own_d_method_3_code_41) rfl rfl k_) ?_
        show OGo p.tables e below _ (s₁.setTop (mkF m 42 #[.val (.ref c1), .val (.ref c2), .val (.int lo), .val (.int len)] [(.ref c2), (.int (g (lo.toNatClampNeg + 2)))]))
        refine OGo.st (fun _ k_ => XS.iloadN X0.here hx rfl (hb hby own_d_method_3_code_42) rfl k_) ?_
        show OGo p.tables e below _ (s₁.setTop (mkF m 43 #[.val (.ref c1), .val (.ref c2), .val (.int lo), .val (.int len)] [(.int lo), (.ref c2), (.int (g (lo.toNatClampNeg + 2)))]))
        refine OGo.st (fun _ k_ => XS.iconst X0.here hx rfl (hb hby own_d_method_3_code_43) k_) ?_
        show OGo p.tables e below _ (s₁.setTop (mkF m 44 #[.val (.ref c1), .val (.ref c2), .val (.int lo), .val (.int len)] [(.int (2 : Int32)), (.int lo), (.ref c2), (.int (g (lo.toNatClampNeg + 2)))]))
        refine OGo.st (fun _ k_ => XS.iadd X0.here hx rfl (hb hby own_d_method_3_code_44) rfl k_) ?_
        show OGo p.tables e below _ (s₁.setTop (mkF m 45 #[.val (.ref c1), .val (.ref c2), .val (.int lo), .val (.int len)] [(.int (lo + (2 : Int32))), (.ref c2), (.int (g (lo.toNatClampNeg + 2)))]))
        have qz12 := own_ldI X0 hx hZ e0 A_c2 (j := (lo + (2 : Int32))) (v := (g (lo.toNatClampNeg + 2))) (hl.in2 hc35) (hl.at2 hc35 g) (g := (mkF m 45 #[.val (.ref c1), .val (.ref c2), .val (.int lo), .val (.int len)] [(.int (lo + (2 : Int32))), (.ref c2), (.int (g (lo.toNatClampNeg + 2)))])) rfl rfl (hb hby own_d_method_3_code_45)
        refine OGo.st qz12 ?_
        show OGo p.tables e below _ (s₁.setTop (mkF m 46 #[.val (.ref c1), .val (.ref c2), .val (.int lo), .val (.int len)] [(.int (g (lo.toNatClampNeg + 2))), (.int (g (lo.toNatClampNeg + 2)))]))
        refine OGo.st (fun _ k_ => XS.icmpYes X0.here hx rfl (pc0 := 46) (pc' := 51) rfl (hb hby own_d_method_3_code_46) rfl (XT.ii_eq_t rfl) (by decide) (by decide) k_) ?_
        show OGo p.tables e below _ (s₁.setTop (mkF m 51 #[.val (.ref c1), .val (.ref c2), .val (.int lo), .val (.int len)] []))
        refine OGo.st (fun _ k_ => XS.iconst X0.here hx rfl (hb hby own_d_method_3_code_51) k_) ?_
        show OGo p.tables e below _ (s₁.setTop (mkF m 52 #[.val (.ref c1), .val (.ref c2), .val (.int lo), .val (.int len)] [(.int (1 : Int32))]))
        refine OGo.fin X0 (v := some (.int (1 : Int32))) (fun h => by rw [Bd.returns] at h; cases h) hlk (fun fs hr => X0.ireturnOut hx Bd.returns rfl (by simp) (hb hby own_d_method_3_code_52) hr) ?_ (by decide) (by decide)
        show own_Q_rm15 Z c1 c2 lo len k1 k2 g f h0 n0 _ s₁.heap _
        rw [e0]
        exact ⟨rfl, N0, rfl⟩
      · refine OGo.st (fun _ k_ => XS.icmpYes X0.here hx rfl (pc0 := 35) (pc' := 51) rfl (hb hby own_d_method_3_code_35) rfl (XT.ii_le_t hc35) (by decide) (by decide) k_) ?_
        show OGo p.tables e below _ (s₁.setTop (mkF m 51 #[.val (.ref c1), .val (.ref c2), .val (.int lo), .val (.int len)] []))
        refine OGo.st (fun _ k_ => XS.iconst X0.here hx rfl (hb hby own_d_method_3_code_51) k_) ?_
        show OGo p.tables e below _ (s₁.setTop (mkF m 52 #[.val (.ref c1), .val (.ref c2), .val (.int lo), .val (.int len)] [(.int (1 : Int32))]))
        refine OGo.fin X0 (v := some (.int (1 : Int32))) (fun h => by rw [Bd.returns] at h; cases h) hlk (fun fs hr => X0.ireturnOut hx Bd.returns rfl (by simp) (hb hby own_d_method_3_code_52) hr) ?_ (by decide) (by decide)
        show own_Q_rm15 Z c1 c2 lo len k1 k2 g f h0 n0 _ s₁.heap _
        rw [e0]
        exact ⟨rfl, N0, rfl⟩
    · refine OGo.st (fun _ k_ => XS.icmpYes X0.here hx rfl (pc0 := 17) (pc' := 33) rfl (hb hby own_d_method_3_code_17) rfl (XT.ii_le_t hc17) (by decide) (by decide) k_) ?_
      show OGo p.tables e below _ (s₁.setTop (mkF m 33 #[.val (.ref c1), .val (.ref c2), .val (.int lo), .val (.int len)] []))
      refine OGo.st (fun _ k_ => XS.iloadN X0.here hx rfl (hb hby own_d_method_3_code_33) rfl k_) ?_
      show OGo p.tables e below _ (s₁.setTop (mkF m 34 #[.val (.ref c1), .val (.ref c2), .val (.int lo), .val (.int len)] [(.int len)]))
      refine OGo.st (fun _ k_ => XS.iconst X0.here hx rfl (hb hby own_d_method_3_code_34) k_) ?_
      show OGo p.tables e below _ (s₁.setTop (mkF m 35 #[.val (.ref c1), .val (.ref c2), .val (.int lo), .val (.int len)] [(.int (2 : Int32)), (.int len)]))
      by_cases hc35 : (2 : Int32) < len
      · refine OGo.st (fun _ k_ => XS.icmpNo X0.here hx rfl (hb hby own_d_method_3_code_35) rfl (XT.ii_le_f hc35) k_) ?_
        show OGo p.tables e below _ (s₁.setTop (mkF m 38 #[.val (.ref c1), .val (.ref c2), .val (.int lo), .val (.int len)] []))
        refine OGo.st (fun _ k_ => XS.aloadN X0.here hx rfl (hb hby own_d_method_3_code_38) rfl rfl k_) ?_
        show OGo p.tables e below _ (s₁.setTop (mkF m 39 #[.val (.ref c1), .val (.ref c2), .val (.int lo), .val (.int len)] [(.ref c1)]))
        refine OGo.st (fun _ k_ => XS.iconst X0.here hx rfl (hb hby own_d_method_3_code_39) k_) ?_
        show OGo p.tables e below _ (s₁.setTop (mkF m 40 #[.val (.ref c1), .val (.ref c2), .val (.int lo), .val (.int len)] [(.int (2 : Int32)), (.ref c1)]))
        have qz13 := own_ldI X0 hx hZ e0 A_c1 (j := (2 : Int32)) (v := (g (lo.toNatClampNeg + 2))) (own_i2 hc35) (hf 2 (own_j2 hc35)) (g := (mkF m 40 #[.val (.ref c1), .val (.ref c2), .val (.int lo), .val (.int len)] [(.int (2 : Int32)), (.ref c1)])) rfl rfl (hb hby own_d_method_3_code_40)
        refine OGo.st qz13 ?_
        show OGo p.tables e below _ (s₁.setTop (mkF m 41 #[.val (.ref c1), .val (.ref c2), .val (.int lo), .val (.int len)] [(.int (g (lo.toNatClampNeg + 2)))]))
        refine OGo.st (fun _ k_ => XS.aloadN X0.here hx rfl (hb hby own_d_method_3_code_41) rfl rfl k_) ?_
        show OGo p.tables e below _ (s₁.setTop (mkF m 42 #[.val (.ref c1), .val (.ref c2), .val (.int lo), .val (.int len)] [(.ref c2), (.int (g (lo.toNatClampNeg + 2)))]))
        refine OGo.st (fun _ k_ => XS.iloadN X0.here hx rfl (hb hby own_d_method_3_code_42) rfl k_) ?_
        show OGo p.tables e below _ (s₁.setTop (mkF m 43 #[.val (.ref c1), .val (.ref c2), .val (.int lo), .val (.int len)] [(.int lo), (.ref c2), (.int (g (lo.toNatClampNeg + 2)))]))
        refine OGo.st (fun _ k_ => XS.iconst X0.here hx rfl (hb hby own_d_method_3_code_43) k_) ?_
        show OGo p.tables e below _ (s₁.setTop (mkF m 44 #[.val (.ref c1), .val (.ref c2), .val (.int lo), .val (.int len)] [(.int (2 : Int32)), (.int lo), (.ref c2), (.int (g (lo.toNatClampNeg + 2)))]))
        refine OGo.st (fun _ k_ => XS.iadd X0.here hx rfl (hb hby own_d_method_3_code_44) rfl k_) ?_
        show OGo p.tables e below _ (s₁.setTop (mkF m 45 #[.val (.ref c1), .val (.ref c2), .val (.int lo), .val (.int len)] [(.int (lo + (2 : Int32))), (.ref c2), (.int (g (lo.toNatClampNeg + 2)))]))
        have qz14 := own_ldI X0 hx hZ e0 A_c2 (j := (lo + (2 : Int32))) (v := (g (lo.toNatClampNeg + 2))) (hl.in2 hc35) (hl.at2 hc35 g) (g := (mkF m 45 #[.val (.ref c1), .val (.ref c2), .val (.int lo), .val (.int len)] [(.int (lo + (2 : Int32))), (.ref c2), (.int (g (lo.toNatClampNeg + 2)))])) rfl rfl (hb hby own_d_method_3_code_45)
        refine OGo.st qz14 ?_
        show OGo p.tables e below _ (s₁.setTop (mkF m 46 #[.val (.ref c1), .val (.ref c2), .val (.int lo), .val (.int len)] [(.int (g (lo.toNatClampNeg + 2))), (.int (g (lo.toNatClampNeg + 2)))]))
        refine OGo.st (fun _ k_ => XS.icmpYes X0.here hx rfl (pc0 := 46) (pc' := 51) rfl (hb hby own_d_method_3_code_46) rfl (XT.ii_eq_t rfl) (by decide) (by decide) k_) ?_
        show OGo p.tables e below _ (s₁.setTop (mkF m 51 #[.val (.ref c1), .val (.ref c2), .val (.int lo), .val (.int len)] []))
        refine OGo.st (fun _ k_ => XS.iconst X0.here hx rfl (hb hby own_d_method_3_code_51) k_) ?_
        show OGo p.tables e below _ (s₁.setTop (mkF m 52 #[.val (.ref c1), .val (.ref c2), .val (.int lo), .val (.int len)] [(.int (1 : Int32))]))
        refine OGo.fin X0 (v := some (.int (1 : Int32))) (fun h => by rw [Bd.returns] at h; cases h) hlk (fun fs hr => X0.ireturnOut hx Bd.returns rfl (by simp) (hb hby own_d_method_3_code_52) hr) ?_ (by decide) (by decide)
        show own_Q_rm15 Z c1 c2 lo len k1 k2 g f h0 n0 _ s₁.heap _
        rw [e0]
        exact ⟨rfl, N0, rfl⟩
      · refine OGo.st (fun _ k_ => XS.icmpYes X0.here hx rfl (pc0 := 35) (pc' := 51) rfl (hb hby own_d_method_3_code_35) rfl (XT.ii_le_t hc35) (by decide) (by decide) k_) ?_
        show OGo p.tables e below _ (s₁.setTop (mkF m 51 #[.val (.ref c1), .val (.ref c2), .val (.int lo), .val (.int len)] []))
        refine OGo.st (fun _ k_ => XS.iconst X0.here hx rfl (hb hby own_d_method_3_code_51) k_) ?_
        show OGo p.tables e below _ (s₁.setTop (mkF m 52 #[.val (.ref c1), .val (.ref c2), .val (.int lo), .val (.int len)] [(.int (1 : Int32))]))
        refine OGo.fin X0 (v := some (.int (1 : Int32))) (fun h => by rw [Bd.returns] at h; cases h) hlk (fun fs hr => X0.ireturnOut hx Bd.returns rfl (by simp) (hb hby own_d_method_3_code_52) hr) ?_ (by decide) (by decide)
        show own_Q_rm15 Z c1 c2 lo len k1 k2 g f h0 n0 _ s₁.heap _
        rw [e0]
        exact ⟨rfl, N0, rfl⟩
theorem own_pd5 : parseMethodDescriptor "([I[I[I)V" = some ⟨[(.array .int), (.array .int), (.array .int)], none⟩ := by decide +kernel
theorem own_pd6 : parseMethodDescriptor "(I)[I" = some ⟨[.int], some (.array .int)⟩ := by decide +kernel
theorem own_pd7 : parseMethodDescriptor "([I[III)Z" = some ⟨[(.array .int), (.array .int), .int, .int], some .boolean⟩ := by decide +kernel
theorem own_ef_rm0 (m : MethodId) (x0 : Int32) (x1 : Int32) (x2 : Int32) (x3 : Int32) (x4 : Int32) (x5 : Int32) : entryFrame m #[(.int x0), (.int x1), (.int x2), (.int x3), (.int x4), (.int x5)] maxLocals = mkF m 0 #[.val (.int x0), .val (.int x1), .val (.int x2), .val (.int x3), .val (.int x4), .val (.int x5), .unset, .unset, .unset, .unset, .unset, .unset, .unset, .unset, .unset, .unset, .unset, .unset, .unset, .unset, .unset, .unset, .unset, .unset, .unset, .unset] [] := by first | (simp [entryFrame, mkF, argsToLocals, Value.category, maxLocals]; done) | rfl
def own_Q_rm0 (Z : State) (p0 p1 p2 p3 p4 p5 : Int32) (h0 : Heap) (n0 : Nat) (v : Option Value) (h : Heap) (L : List Loc) : Prop := v = some (.int 1) ∧ Fr n0 L
set_option maxRecDepth 65536 in
set_option maxHeartbeats 40000000 in
theorem rm0 (l : Launch) (Z : State) (a0 : Array Value) (hw : ∀ d ∈ tables_1, d.before a0 Z = true) (ws : List Jvm.Cond) (p0 p1 p2 p3 p4 p5 : Int32) (h0 : Heap) (n0 : Nat) (Z0 : n0 ≤ h0.size)  :
    OMet l Z x code maxLocals ret ws room_1 #[(.int p0), (.int p1), (.int p2), (.int p3), (.int p4), (.int p5)] h0 (own_Q_rm0 Z p0 p1 p2 p3 p4 p5 h0 n0) := by
  refine MetFree.of_bodySF (plainFor_of_name own_pn2) hisR ?_
  intro p e s m args below meth c s₁ Bd hml0 hP hK
  obtain ⟨rfl, hZ, hh⟩ := hP
  have hx := Bd.exec
  have hby := Bd.bytes
  have hml : c.maxLocals = 26 := hml0
  have hown : s.vm.findClass "com/example/cari/cari/index/PositionsInPinLaw" = some m.cls := findClass_of_methodNamed Bd.named
  have hnm := (name_of_methodNamed Bd.named Bd.method).1
  have hlk : meth.locks = false := Bd.notSynchronized
  have X0 : Stand p l e room_1 s m #[(.int p0), (.int p1), (.int p2), (.int p3), (.int p4), (.int p5)] below meth c s₁ [] 0 0 := Stand.of_body Bd
  have e0 : s₁.heap = h0 := by rw [← hh, Bd.state]; rfl
  have N0 := Fr.nil n0
  refine OGo.enter (P := OPost s (own_Q_rm0 Z p0 p1 p2 p3 p4 p5 h0 n0) room_1.cells room_1.slots) (own_ef_rm0 m p0 p1 p2 p3 p4 p5) ?_
  show OGo p.tables e below _ (s₁.setTop (mkF m 0 #[.val (.int p0), .val (.int p1), .val (.int p2), .val (.int p3), .val (.int p4), .val (.int p5), .unset, .unset, .unset, .unset, .unset, .unset, .unset, .unset, .unset, .unset, .unset, .unset, .unset, .unset, .unset, .unset, .unset, .unset, .unset, .unset] []))
  refine OGo.st (fun _ k_ => XS.iloadN X0.here hx rfl (hb hby at_0) rfl k_) ?_
  show OGo p.tables e below _ (s₁.setTop (mkF m 1 #[.val (.int p0), .val (.int p1), .val (.int p2), .val (.int p3), .val (.int p4), .val (.int p5), .unset, .unset, .unset, .unset, .unset, .unset, .unset, .unset, .unset, .unset, .unset, .unset, .unset, .unset, .unset, .unset, .unset, .unset, .unset, .unset] [(.int p0)]))
  refine OGo.st (fun _ k_ => XS.iconst X0.here hx rfl (hb hby at_1) k_) ?_
  show OGo p.tables e below _ (s₁.setTop (mkF m 2 #[.val (.int p0), .val (.int p1), .val (.int p2), .val (.int p3), .val (.int p4), .val (.int p5), .unset, .unset, .unset, .unset, .unset, .unset, .unset, .unset, .unset, .unset, .unset, .unset, .unset, .unset, .unset, .unset, .unset, .unset, .unset, .unset] [(.int (2 : Int32)), (.int p0)]))
  refine OGo.st (fun _ k_ => XS.ishr X0.here hx rfl (hb hby at_2) rfl k_) ?_
  show OGo p.tables e below _ (s₁.setTop (mkF m 3 #[.val (.int p0), .val (.int p1), .val (.int p2), .val (.int p3), .val (.int p4), .val (.int p5), .unset, .unset, .unset, .unset, .unset, .unset, .unset, .unset, .unset, .unset, .unset, .unset, .unset, .unset, .unset, .unset, .unset, .unset, .unset, .unset] [(.int (p0 >>> ((2 : Int32) &&& 31)))]))
  obtain ⟨d0, hd0⟩ : ∃ z : Int32, z = (p0 >>> ((2 : Int32) &&& 31)) := ⟨_, rfl⟩
  rw [← hd0]
  show OGo p.tables e below _ (s₁.setTop (mkF m 3 #[.val (.int p0), .val (.int p1), .val (.int p2), .val (.int p3), .val (.int p4), .val (.int p5), .unset, .unset, .unset, .unset, .unset, .unset, .unset, .unset, .unset, .unset, .unset, .unset, .unset, .unset, .unset, .unset, .unset, .unset, .unset, .unset] [(.int d0)]))
  refine OGo.st (fun _ k_ => XS.istore X0.here hx rfl (hb hby at_3) rfl (l' := #[.val (.int p0), .val (.int p1), .val (.int p2), .val (.int p3), .val (.int p4), .val (.int p5), .val (.int d0), .unset, .unset, .unset, .unset, .unset, .unset, .unset, .unset, .unset, .unset, .unset, .unset, .unset, .unset, .unset, .unset, .unset, .unset, .unset]) rfl k_) ?_
  show OGo p.tables e below _ (s₁.setTop (mkF m 5 #[.val (.int p0), .val (.int p1), .val (.int p2), .val (.int p3), .val (.int p4), .val (.int p5), .val (.int d0), .unset, .unset, .unset, .unset, .unset, .unset, .unset, .unset, .unset, .unset, .unset, .unset, .unset, .unset, .unset, .unset, .unset, .unset, .unset] []))
  refine OGo.st (fun _ k_ => XS.iload X0.here hx rfl (hb hby at_5) rfl k_) ?_
  show OGo p.tables e below _ (s₁.setTop (mkF m 7 #[.val (.int p0), .val (.int p1), .val (.int p2), .val (.int p3), .val (.int p4), .val (.int p5), .val (.int d0), .unset, .unset, .unset, .unset, .unset, .unset, .unset, .unset, .unset, .unset, .unset, .unset, .unset, .unset, .unset, .unset, .unset, .unset, .unset] [(.int d0)]))
  refine OGo.st (fun _ k_ => XS.iconst X0.here hx rfl (hb hby at_7) k_) ?_
  show OGo p.tables e below _ (s₁.setTop (mkF m 8 #[.val (.int p0), .val (.int p1), .val (.int p2), .val (.int p3), .val (.int p4), .val (.int p5), .val (.int d0), .unset, .unset, .unset, .unset, .unset, .unset, .unset, .unset, .unset, .unset, .unset, .unset, .unset, .unset, .unset, .unset, .unset, .unset, .unset] [(.int (1 : Int32)), (.int d0)]))
  refine OGo.st (fun _ k_ => XS.iadd X0.here hx rfl (hb hby at_8) rfl k_) ?_
  show OGo p.tables e below _ (s₁.setTop (mkF m 9 #[.val (.int p0), .val (.int p1), .val (.int p2), .val (.int p3), .val (.int p4), .val (.int p5), .val (.int d0), .unset, .unset, .unset, .unset, .unset, .unset, .unset, .unset, .unset, .unset, .unset, .unset, .unset, .unset, .unset, .unset, .unset, .unset, .unset] [(.int (d0 + (1 : Int32)))]))
  refine OGo.st (fun _ k_ => XS.iloadN X0.here hx rfl (hb hby at_9) rfl k_) ?_
  show OGo p.tables e below _ (s₁.setTop (mkF m 10 #[.val (.int p0), .val (.int p1), .val (.int p2), .val (.int p3), .val (.int p4), .val (.int p5), .val (.int d0), .unset, .unset, .unset, .unset, .unset, .unset, .unset, .unset, .unset, .unset, .unset, .unset, .unset, .unset, .unset, .unset, .unset, .unset, .unset] [(.int p1), (.int (d0 + (1 : Int32)))]))
  refine OGo.st (fun _ k_ => X0.ldcI hx hown (mvT hZ (hw _ (List.mem_of_getElem? (i := 0) rfl))) rfl (hb hby at_10) k_) ?_
  show OGo p.tables e below _ (s₁.setTop (mkF m 12 #[.val (.int p0), .val (.int p1), .val (.int p2), .val (.int p3), .val (.int p4), .val (.int p5), .val (.int d0), .unset, .unset, .unset, .unset, .unset, .unset, .unset, .unset, .unset, .unset, .unset, .unset, .unset, .unset, .unset, .unset, .unset, .unset, .unset] [(.int (67108863 : Int32)), (.int p1), (.int (d0 + (1 : Int32)))]))
  refine OGo.st (fun _ k_ => XS.iand X0.here hx rfl (hb hby at_12) rfl k_) ?_
  show OGo p.tables e below _ (s₁.setTop (mkF m 13 #[.val (.int p0), .val (.int p1), .val (.int p2), .val (.int p3), .val (.int p4), .val (.int p5), .val (.int d0), .unset, .unset, .unset, .unset, .unset, .unset, .unset, .unset, .unset, .unset, .unset, .unset, .unset, .unset, .unset, .unset, .unset, .unset, .unset] [(.int (p1 &&& (67108863 : Int32))), (.int (d0 + (1 : Int32)))]))
  refine OGo.st (fun _ k_ => XS.iadd X0.here hx rfl (hb hby at_13) rfl k_) ?_
  show OGo p.tables e below _ (s₁.setTop (mkF m 14 #[.val (.int p0), .val (.int p1), .val (.int p2), .val (.int p3), .val (.int p4), .val (.int p5), .val (.int d0), .unset, .unset, .unset, .unset, .unset, .unset, .unset, .unset, .unset, .unset, .unset, .unset, .unset, .unset, .unset, .unset, .unset, .unset, .unset] [(.int ((d0 + (1 : Int32)) + (p1 &&& (67108863 : Int32))))]))
  obtain ⟨d1, hd1⟩ : ∃ z : Int32, z = ((d0 + (1 : Int32)) + (p1 &&& (67108863 : Int32))) := ⟨_, rfl⟩
  rw [← hd1]
  show OGo p.tables e below _ (s₁.setTop (mkF m 14 #[.val (.int p0), .val (.int p1), .val (.int p2), .val (.int p3), .val (.int p4), .val (.int p5), .val (.int d0), .unset, .unset, .unset, .unset, .unset, .unset, .unset, .unset, .unset, .unset, .unset, .unset, .unset, .unset, .unset, .unset, .unset, .unset, .unset] [(.int d1)]))
  refine OGo.st (fun _ k_ => XS.istore X0.here hx rfl (hb hby at_14) rfl (l' := #[.val (.int p0), .val (.int p1), .val (.int p2), .val (.int p3), .val (.int p4), .val (.int p5), .val (.int d0), .val (.int d1), .unset, .unset, .unset, .unset, .unset, .unset, .unset, .unset, .unset, .unset, .unset, .unset, .unset, .unset, .unset, .unset, .unset, .unset]) rfl k_) ?_
  show OGo p.tables e below _ (s₁.setTop (mkF m 16 #[.val (.int p0), .val (.int p1), .val (.int p2), .val (.int p3), .val (.int p4), .val (.int p5), .val (.int d0), .val (.int d1), .unset, .unset, .unset, .unset, .unset, .unset, .unset, .unset, .unset, .unset, .unset, .unset, .unset, .unset, .unset, .unset, .unset, .unset] []))
  refine OGo.st (fun _ k_ => XS.iload X0.here hx rfl (hb hby at_16) rfl k_) ?_
  show OGo p.tables e below _ (s₁.setTop (mkF m 18 #[.val (.int p0), .val (.int p1), .val (.int p2), .val (.int p3), .val (.int p4), .val (.int p5), .val (.int d0), .val (.int d1), .unset, .unset, .unset, .unset, .unset, .unset, .unset, .unset, .unset, .unset, .unset, .unset, .unset, .unset, .unset, .unset, .unset, .unset] [(.int d1)]))
  refine OGo.st (fun _ k_ => XS.iconst X0.here hx rfl (hb hby at_18) k_) ?_
  show OGo p.tables e below _ (s₁.setTop (mkF m 19 #[.val (.int p0), .val (.int p1), .val (.int p2), .val (.int p3), .val (.int p4), .val (.int p5), .val (.int d0), .val (.int d1), .unset, .unset, .unset, .unset, .unset, .unset, .unset, .unset, .unset, .unset, .unset, .unset, .unset, .unset, .unset, .unset, .unset, .unset] [(.int (1 : Int32)), (.int d1)]))
  refine OGo.st (fun _ k_ => XS.iadd X0.here hx rfl (hb hby at_19) rfl k_) ?_
  show OGo p.tables e below _ (s₁.setTop (mkF m 20 #[.val (.int p0), .val (.int p1), .val (.int p2), .val (.int p3), .val (.int p4), .val (.int p5), .val (.int d0), .val (.int d1), .unset, .unset, .unset, .unset, .unset, .unset, .unset, .unset, .unset, .unset, .unset, .unset, .unset, .unset, .unset, .unset, .unset, .unset] [(.int (d1 + (1 : Int32)))]))
  refine OGo.st (fun _ k_ => XS.iloadN X0.here hx rfl (hb hby at_20) rfl k_) ?_
  show OGo p.tables e below _ (s₁.setTop (mkF m 21 #[.val (.int p0), .val (.int p1), .val (.int p2), .val (.int p3), .val (.int p4), .val (.int p5), .val (.int d0), .val (.int d1), .unset, .unset, .unset, .unset, .unset, .unset, .unset, .unset, .unset, .unset, .unset, .unset, .unset, .unset, .unset, .unset, .unset, .unset] [(.int p2), (.int (d1 + (1 : Int32)))]))
  refine OGo.st (fun _ k_ => XS.iconst X0.here hx rfl (hb hby at_21) k_) ?_
  show OGo p.tables e below _ (s₁.setTop (mkF m 22 #[.val (.int p0), .val (.int p1), .val (.int p2), .val (.int p3), .val (.int p4), .val (.int p5), .val (.int d0), .val (.int d1), .unset, .unset, .unset, .unset, .unset, .unset, .unset, .unset, .unset, .unset, .unset, .unset, .unset, .unset, .unset, .unset, .unset, .unset] [(.int (3 : Int32)), (.int p2), (.int (d1 + (1 : Int32)))]))
  refine OGo.st (fun _ k_ => XS.iushr X0.here hx rfl (hb hby at_22) rfl k_) ?_
  show OGo p.tables e below _ (s₁.setTop (mkF m 23 #[.val (.int p0), .val (.int p1), .val (.int p2), .val (.int p3), .val (.int p4), .val (.int p5), .val (.int d0), .val (.int d1), .unset, .unset, .unset, .unset, .unset, .unset, .unset, .unset, .unset, .unset, .unset, .unset, .unset, .unset, .unset, .unset, .unset, .unset] [(.int ((p2.toUInt32 >>> ((3 : Int32) &&& 31).toUInt32).toInt32)), (.int (d1 + (1 : Int32)))]))
  refine OGo.st (fun _ k_ => X0.ldcI hx hown (mvT hZ (hw _ (List.mem_of_getElem? (i := 0) rfl))) rfl (hb hby at_23) k_) ?_
  show OGo p.tables e below _ (s₁.setTop (mkF m 25 #[.val (.int p0), .val (.int p1), .val (.int p2), .val (.int p3), .val (.int p4), .val (.int p5), .val (.int d0), .val (.int d1), .unset, .unset, .unset, .unset, .unset, .unset, .unset, .unset, .unset, .unset, .unset, .unset, .unset, .unset, .unset, .unset, .unset, .unset] [(.int (67108863 : Int32)), (.int ((p2.toUInt32 >>> ((3 : Int32) &&& 31).toUInt32).toInt32)), (.int (d1 + (1 : Int32)))]))
  refine OGo.st (fun _ k_ => XS.iand X0.here hx rfl (hb hby at_25) rfl k_) ?_
  show OGo p.tables e below _ (s₁.setTop (mkF m 26 #[.val (.int p0), .val (.int p1), .val (.int p2), .val (.int p3), .val (.int p4), .val (.int p5), .val (.int d0), .val (.int d1), .unset, .unset, .unset, .unset, .unset, .unset, .unset, .unset, .unset, .unset, .unset, .unset, .unset, .unset, .unset, .unset, .unset, .unset] [(.int (((p2.toUInt32 >>> ((3 : Int32) &&& 31).toUInt32).toInt32) &&& (67108863 : Int32))), (.int (d1 + (1 : Int32)))]))
  refine OGo.st (fun _ k_ => XS.iadd X0.here hx rfl (hb hby at_26) rfl k_) ?_
  show OGo p.tables e below _ (s₁.setTop (mkF m 27 #[.val (.int p0), .val (.int p1), .val (.int p2), .val (.int p3), .val (.int p4), .val (.int p5), .val (.int d0), .val (.int d1), .unset, .unset, .unset, .unset, .unset, .unset, .unset, .unset, .unset, .unset, .unset, .unset, .unset, .unset, .unset, .unset, .unset, .unset] [(.int ((d1 + (1 : Int32)) + (((p2.toUInt32 >>> ((3 : Int32) &&& 31).toUInt32).toInt32) &&& (67108863 : Int32))))]))
  obtain ⟨d2, hd2⟩ : ∃ z : Int32, z = ((d1 + (1 : Int32)) + (((p2.toUInt32 >>> ((3 : Int32) &&& 31).toUInt32).toInt32) &&& (67108863 : Int32))) := ⟨_, rfl⟩
  rw [← hd2]
  show OGo p.tables e below _ (s₁.setTop (mkF m 27 #[.val (.int p0), .val (.int p1), .val (.int p2), .val (.int p3), .val (.int p4), .val (.int p5), .val (.int d0), .val (.int d1), .unset, .unset, .unset, .unset, .unset, .unset, .unset, .unset, .unset, .unset, .unset, .unset, .unset, .unset, .unset, .unset, .unset, .unset] [(.int d2)]))
  refine OGo.st (fun _ k_ => XS.istore X0.here hx rfl (hb hby at_27) rfl (l' := #[.val (.int p0), .val (.int p1), .val (.int p2), .val (.int p3), .val (.int p4), .val (.int p5), .val (.int d0), .val (.int d1), .val (.int d2), .unset, .unset, .unset, .unset, .unset, .unset, .unset, .unset, .unset, .unset, .unset, .unset, .unset, .unset, .unset, .unset, .unset]) rfl k_) ?_
  show OGo p.tables e below _ (s₁.setTop (mkF m 29 #[.val (.int p0), .val (.int p1), .val (.int p2), .val (.int p3), .val (.int p4), .val (.int p5), .val (.int d0), .val (.int d1), .val (.int d2), .unset, .unset, .unset, .unset, .unset, .unset, .unset, .unset, .unset, .unset, .unset, .unset, .unset, .unset, .unset, .unset, .unset] []))
  refine OGo.st (fun _ k_ => XS.iload X0.here hx rfl (hb hby at_29) rfl k_) ?_
  show OGo p.tables e below _ (s₁.setTop (mkF m 31 #[.val (.int p0), .val (.int p1), .val (.int p2), .val (.int p3), .val (.int p4), .val (.int p5), .val (.int d0), .val (.int d1), .val (.int d2), .unset, .unset, .unset, .unset, .unset, .unset, .unset, .unset, .unset, .unset, .unset, .unset, .unset, .unset, .unset, .unset, .unset] [(.int p4)]))
  refine OGo.st (fun _ k_ => XS.iconst X0.here hx rfl (hb hby at_31) k_) ?_
  show OGo p.tables e below _ (s₁.setTop (mkF m 32 #[.val (.int p0), .val (.int p1), .val (.int p2), .val (.int p3), .val (.int p4), .val (.int p5), .val (.int d0), .val (.int d1), .val (.int d2), .unset, .unset, .unset, .unset, .unset, .unset, .unset, .unset, .unset, .unset, .unset, .unset, .unset, .unset, .unset, .unset, .unset] [(.int (3 : Int32)), (.int p4)]))
  refine OGo.st (fun _ k_ => XS.iand X0.here hx rfl (hb hby at_32) rfl k_) ?_
  show OGo p.tables e below _ (s₁.setTop (mkF m 33 #[.val (.int p0), .val (.int p1), .val (.int p2), .val (.int p3), .val (.int p4), .val (.int p5), .val (.int d0), .val (.int d1), .val (.int d2), .unset, .unset, .unset, .unset, .unset, .unset, .unset, .unset, .unset, .unset, .unset, .unset, .unset, .unset, .unset, .unset, .unset] [(.int (p4 &&& (3 : Int32)))]))
  obtain ⟨c0, hc0⟩ : ∃ z : Int32, z = (p4 &&& (3 : Int32)) := ⟨_, rfl⟩
  rw [← hc0]
  show OGo p.tables e below _ (s₁.setTop (mkF m 33 #[.val (.int p0), .val (.int p1), .val (.int p2), .val (.int p3), .val (.int p4), .val (.int p5), .val (.int d0), .val (.int d1), .val (.int d2), .unset, .unset, .unset, .unset, .unset, .unset, .unset, .unset, .unset, .unset, .unset, .unset, .unset, .unset, .unset, .unset, .unset] [(.int c0)]))
  refine OGo.st (fun _ k_ => XS.istore X0.here hx rfl (hb hby at_33) rfl (l' := #[.val (.int p0), .val (.int p1), .val (.int p2), .val (.int p3), .val (.int p4), .val (.int p5), .val (.int d0), .val (.int d1), .val (.int d2), .val (.int c0), .unset, .unset, .unset, .unset, .unset, .unset, .unset, .unset, .unset, .unset, .unset, .unset, .unset, .unset, .unset, .unset]) rfl k_) ?_
  show OGo p.tables e below _ (s₁.setTop (mkF m 35 #[.val (.int p0), .val (.int p1), .val (.int p2), .val (.int p3), .val (.int p4), .val (.int p5), .val (.int d0), .val (.int d1), .val (.int d2), .val (.int c0), .unset, .unset, .unset, .unset, .unset, .unset, .unset, .unset, .unset, .unset, .unset, .unset, .unset, .unset, .unset, .unset] []))
  refine OGo.st (fun _ k_ => XS.iload X0.here hx rfl (hb hby at_35) rfl k_) ?_
  show OGo p.tables e below _ (s₁.setTop (mkF m 37 #[.val (.int p0), .val (.int p1), .val (.int p2), .val (.int p3), .val (.int p4), .val (.int p5), .val (.int d0), .val (.int d1), .val (.int d2), .val (.int c0), .unset, .unset, .unset, .unset, .unset, .unset, .unset, .unset, .unset, .unset, .unset, .unset, .unset, .unset, .unset, .unset] [(.int p4)]))
  refine OGo.st (fun _ k_ => XS.iconst X0.here hx rfl (hb hby at_37) k_) ?_
  show OGo p.tables e below _ (s₁.setTop (mkF m 38 #[.val (.int p0), .val (.int p1), .val (.int p2), .val (.int p3), .val (.int p4), .val (.int p5), .val (.int d0), .val (.int d1), .val (.int d2), .val (.int c0), .unset, .unset, .unset, .unset, .unset, .unset, .unset, .unset, .unset, .unset, .unset, .unset, .unset, .unset, .unset, .unset] [(.int (2 : Int32)), (.int p4)]))
  refine OGo.st (fun _ k_ => XS.iushr X0.here hx rfl (hb hby at_38) rfl k_) ?_
  show OGo p.tables e below _ (s₁.setTop (mkF m 39 #[.val (.int p0), .val (.int p1), .val (.int p2), .val (.int p3), .val (.int p4), .val (.int p5), .val (.int d0), .val (.int d1), .val (.int d2), .val (.int c0), .unset, .unset, .unset, .unset, .unset, .unset, .unset, .unset, .unset, .unset, .unset, .unset, .unset, .unset, .unset, .unset] [(.int ((p4.toUInt32 >>> ((2 : Int32) &&& 31).toUInt32).toInt32))]))
  refine OGo.st (fun _ k_ => XS.iconst X0.here hx rfl (hb hby at_39) k_) ?_
  show OGo p.tables e below _ (s₁.setTop (mkF m 40 #[.val (.int p0), .val (.int p1), .val (.int p2), .val (.int p3), .val (.int p4), .val (.int p5), .val (.int d0), .val (.int d1), .val (.int d2), .val (.int c0), .unset, .unset, .unset, .unset, .unset, .unset, .unset, .unset, .unset, .unset, .unset, .unset, .unset, .unset, .unset, .unset] [(.int (3 : Int32)), (.int ((p4.toUInt32 >>> ((2 : Int32) &&& 31).toUInt32).toInt32))]))
  refine OGo.st (fun _ k_ => XS.iand X0.here hx rfl (hb hby at_40) rfl k_) ?_
  show OGo p.tables e below _ (s₁.setTop (mkF m 41 #[.val (.int p0), .val (.int p1), .val (.int p2), .val (.int p3), .val (.int p4), .val (.int p5), .val (.int d0), .val (.int d1), .val (.int d2), .val (.int c0), .unset, .unset, .unset, .unset, .unset, .unset, .unset, .unset, .unset, .unset, .unset, .unset, .unset, .unset, .unset, .unset] [(.int (((p4.toUInt32 >>> ((2 : Int32) &&& 31).toUInt32).toInt32) &&& (3 : Int32)))]))
  obtain ⟨c1, hc1⟩ : ∃ z : Int32, z = (((p4.toUInt32 >>> ((2 : Int32) &&& 31).toUInt32).toInt32) &&& (3 : Int32)) := ⟨_, rfl⟩
  rw [← hc1]
  show OGo p.tables e below _ (s₁.setTop (mkF m 41 #[.val (.int p0), .val (.int p1), .val (.int p2), .val (.int p3), .val (.int p4), .val (.int p5), .val (.int d0), .val (.int d1), .val (.int d2), .val (.int c0), .unset, .unset, .unset, .unset, .unset, .unset, .unset, .unset, .unset, .unset, .unset, .unset, .unset, .unset, .unset, .unset] [(.int c1)]))
  refine OGo.st (fun _ k_ => XS.istore X0.here hx rfl (hb hby at_41) rfl (l' := #[.val (.int p0), .val (.int p1), .val (.int p2), .val (.int p3), .val (.int p4), .val (.int p5), .val (.int d0), .val (.int d1), .val (.int d2), .val (.int c0), .val (.int c1), .unset, .unset, .unset, .unset, .unset, .unset, .unset, .unset, .unset, .unset, .unset, .unset, .unset, .unset, .unset]) rfl k_) ?_
  show OGo p.tables e below _ (s₁.setTop (mkF m 43 #[.val (.int p0), .val (.int p1), .val (.int p2), .val (.int p3), .val (.int p4), .val (.int p5), .val (.int d0), .val (.int d1), .val (.int d2), .val (.int c0), .val (.int c1), .unset, .unset, .unset, .unset, .unset, .unset, .unset, .unset, .unset, .unset, .unset, .unset, .unset, .unset, .unset] []))
  refine OGo.st (fun _ k_ => XS.iload X0.here hx rfl (hb hby at_43) rfl k_) ?_
  show OGo p.tables e below _ (s₁.setTop (mkF m 45 #[.val (.int p0), .val (.int p1), .val (.int p2), .val (.int p3), .val (.int p4), .val (.int p5), .val (.int d0), .val (.int d1), .val (.int d2), .val (.int c0), .val (.int c1), .unset, .unset, .unset, .unset, .unset, .unset, .unset, .unset, .unset, .unset, .unset, .unset, .unset, .unset, .unset] [(.int p4)]))
  refine OGo.st (fun _ k_ => XS.iconst X0.here hx rfl (hb hby at_45) k_) ?_
  show OGo p.tables e below _ (s₁.setTop (mkF m 46 #[.val (.int p0), .val (.int p1), .val (.int p2), .val (.int p3), .val (.int p4), .val (.int p5), .val (.int d0), .val (.int d1), .val (.int d2), .val (.int c0), .val (.int c1), .unset, .unset, .unset, .unset, .unset, .unset, .unset, .unset, .unset, .unset, .unset, .unset, .unset, .unset, .unset] [(.int (4 : Int32)), (.int p4)]))
  refine OGo.st (fun _ k_ => XS.iushr X0.here hx rfl (hb hby at_46) rfl k_) ?_
  show OGo p.tables e below _ (s₁.setTop (mkF m 47 #[.val (.int p0), .val (.int p1), .val (.int p2), .val (.int p3), .val (.int p4), .val (.int p5), .val (.int d0), .val (.int d1), .val (.int d2), .val (.int c0), .val (.int c1), .unset, .unset, .unset, .unset, .unset, .unset, .unset, .unset, .unset, .unset, .unset, .unset, .unset, .unset, .unset] [(.int ((p4.toUInt32 >>> ((4 : Int32) &&& 31).toUInt32).toInt32))]))
  refine OGo.st (fun _ k_ => XS.iconst X0.here hx rfl (hb hby at_47) k_) ?_
  show OGo p.tables e below _ (s₁.setTop (mkF m 48 #[.val (.int p0), .val (.int p1), .val (.int p2), .val (.int p3), .val (.int p4), .val (.int p5), .val (.int d0), .val (.int d1), .val (.int d2), .val (.int c0), .val (.int c1), .unset, .unset, .unset, .unset, .unset, .unset, .unset, .unset, .unset, .unset, .unset, .unset, .unset, .unset, .unset] [(.int (3 : Int32)), (.int ((p4.toUInt32 >>> ((4 : Int32) &&& 31).toUInt32).toInt32))]))
  refine OGo.st (fun _ k_ => XS.iand X0.here hx rfl (hb hby at_48) rfl k_) ?_
  show OGo p.tables e below _ (s₁.setTop (mkF m 49 #[.val (.int p0), .val (.int p1), .val (.int p2), .val (.int p3), .val (.int p4), .val (.int p5), .val (.int d0), .val (.int d1), .val (.int d2), .val (.int c0), .val (.int c1), .unset, .unset, .unset, .unset, .unset, .unset, .unset, .unset, .unset, .unset, .unset, .unset, .unset, .unset, .unset] [(.int (((p4.toUInt32 >>> ((4 : Int32) &&& 31).toUInt32).toInt32) &&& (3 : Int32)))]))
  obtain ⟨c2, hc2⟩ : ∃ z : Int32, z = (((p4.toUInt32 >>> ((4 : Int32) &&& 31).toUInt32).toInt32) &&& (3 : Int32)) := ⟨_, rfl⟩
  rw [← hc2]
  have hd := own_ds hd0 hd1 hd2
  have hc := own_cs hc0 hc1 hc2
  show OGo p.tables e below _ (s₁.setTop (mkF m 49 #[.val (.int p0), .val (.int p1), .val (.int p2), .val (.int p3), .val (.int p4), .val (.int p5), .val (.int d0), .val (.int d1), .val (.int d2), .val (.int c0), .val (.int c1), .unset, .unset, .unset, .unset, .unset, .unset, .unset, .unset, .unset, .unset, .unset, .unset, .unset, .unset, .unset] [(.int c2)]))
  refine OGo.st (fun _ k_ => XS.istore X0.here hx rfl (hb hby at_49) rfl (l' := #[.val (.int p0), .val (.int p1), .val (.int p2), .val (.int p3), .val (.int p4), .val (.int p5), .val (.int d0), .val (.int d1), .val (.int d2), .val (.int c0), .val (.int c1), .val (.int c2), .unset, .unset, .unset, .unset, .unset, .unset, .unset, .unset, .unset, .unset, .unset, .unset, .unset, .unset]) rfl k_) ?_
  obtain ⟨ve, hvz1, st1⟩ : ∃ ve : Int32, ve = (if (((p4.toUInt32 >>> ((6 : Int32) &&& 31).toUInt32).toInt32) &&& (1 : Int32)) = 0 then (0 : Int32) else (1 : Int32)) ∧ ∀ t, Steps p.tables e below (s₁.setTop (mkF m 66 #[.val (.int p0), .val (.int p1), .val (.int p2), .val (.int p3), .val (.int p4), .val (.int p5), .val (.int d0), .val (.int d1), .val (.int d2), .val (.int c0), .val (.int c1), .val (.int c2), .unset, .unset, .unset, .unset, .unset, .unset, .unset, .unset, .unset, .unset, .unset, .unset, .unset, .unset] [(.int ve)])) t → Steps p.tables e below (s₁.setTop (mkF m 51 #[.val (.int p0), .val (.int p1), .val (.int p2), .val (.int p3), .val (.int p4), .val (.int p5), .val (.int d0), .val (.int d1), .val (.int d2), .val (.int c0), .val (.int c1), .val (.int c2), .unset, .unset, .unset, .unset, .unset, .unset, .unset, .unset, .unset, .unset, .unset, .unset, .unset, .unset] [])) t := by
    refine ⟨_, rfl, fun t k => ?_⟩
    show Steps p.tables e below (s₁.setTop (mkF m 51 #[.val (.int p0), .val (.int p1), .val (.int p2), .val (.int p3), .val (.int p4), .val (.int p5), .val (.int d0), .val (.int d1), .val (.int d2), .val (.int c0), .val (.int c1), .val (.int c2), .unset, .unset, .unset, .unset, .unset, .unset, .unset, .unset, .unset, .unset, .unset, .unset, .unset, .unset] [])) _
    refine XS.iload X0.here hx rfl (hb hby at_51) rfl ?_
    show Steps p.tables e below (s₁.setTop (mkF m 53 #[.val (.int p0), .val (.int p1), .val (.int p2), .val (.int p3), .val (.int p4), .val (.int p5), .val (.int d0), .val (.int d1), .val (.int d2), .val (.int c0), .val (.int c1), .val (.int c2), .unset, .unset, .unset, .unset, .unset, .unset, .unset, .unset, .unset, .unset, .unset, .unset, .unset, .unset] [(.int p4)])) _
    refine XS.bipush X0.here hx rfl (hb hby at_53) ?_
    show Steps p.tables e below (s₁.setTop (mkF m 55 #[.val (.int p0), .val (.int p1), .val (.int p2), .val (.int p3), .val (.int p4), .val (.int p5), .val (.int d0), .val (.int d1), .val (.int d2), .val (.int c0), .val (.int c1), .val (.int c2), .unset, .unset, .unset, .unset, .unset, .unset, .unset, .unset, .unset, .unset, .unset, .unset, .unset, .unset] [(.int (6 : Int32)), (.int p4)])) _
    refine XS.iushr X0.here hx rfl (hb hby at_55) rfl ?_
    show Steps p.tables e below (s₁.setTop (mkF m 56 #[.val (.int p0), .val (.int p1), .val (.int p2), .val (.int p3), .val (.int p4), .val (.int p5), .val (.int d0), .val (.int d1), .val (.int d2), .val (.int c0), .val (.int c1), .val (.int c2), .unset, .unset, .unset, .unset, .unset, .unset, .unset, .unset, .unset, .unset, .unset, .unset, .unset, .unset] [(.int ((p4.toUInt32 >>> ((6 : Int32) &&& 31).toUInt32).toInt32))])) _
    refine XS.iconst X0.here hx rfl (hb hby at_56) ?_
    show Steps p.tables e below (s₁.setTop (mkF m 57 #[.val (.int p0), .val (.int p1), .val (.int p2), .val (.int p3), .val (.int p4), .val (.int p5), .val (.int d0), .val (.int d1), .val (.int d2), .val (.int c0), .val (.int c1), .val (.int c2), .unset, .unset, .unset, .unset, .unset, .unset, .unset, .unset, .unset, .unset, .unset, .unset, .unset, .unset] [(.int (1 : Int32)), (.int ((p4.toUInt32 >>> ((6 : Int32) &&& 31).toUInt32).toInt32))])) _
    refine XS.iand X0.here hx rfl (hb hby at_57) rfl ?_
    show Steps p.tables e below (s₁.setTop (mkF m 58 #[.val (.int p0), .val (.int p1), .val (.int p2), .val (.int p3), .val (.int p4), .val (.int p5), .val (.int d0), .val (.int d1), .val (.int d2), .val (.int c0), .val (.int c1), .val (.int c2), .unset, .unset, .unset, .unset, .unset, .unset, .unset, .unset, .unset, .unset, .unset, .unset, .unset, .unset] [(.int (((p4.toUInt32 >>> ((6 : Int32) &&& 31).toUInt32).toInt32) &&& (1 : Int32)))])) _
    by_cases hs58 : (((p4.toUInt32 >>> ((6 : Int32) &&& 31).toUInt32).toInt32) &&& (1 : Int32)) = 0
    · rw [if_pos hs58] at k
      refine XS.ifYes X0.here hx rfl (pc0 := 58) (pc' := 65) rfl (hb hby at_58) rfl (XT.i0_eq_t hs58) (by decide) (by decide) ?_
      show Steps p.tables e below (s₁.setTop (mkF m 65 #[.val (.int p0), .val (.int p1), .val (.int p2), .val (.int p3), .val (.int p4), .val (.int p5), .val (.int d0), .val (.int d1), .val (.int d2), .val (.int c0), .val (.int c1), .val (.int c2), .unset, .unset, .unset, .unset, .unset, .unset, .unset, .unset, .unset, .unset, .unset, .unset, .unset, .unset] [])) _
      refine XS.iconst X0.here hx rfl (hb hby at_65) ?_
      exact k
    · rw [if_neg hs58] at k
      refine XS.ifNo X0.here hx rfl (hb hby at_58) rfl (XT.i0_eq_f hs58) ?_
      show Steps p.tables e below (s₁.setTop (mkF m 61 #[.val (.int p0), .val (.int p1), .val (.int p2), .val (.int p3), .val (.int p4), .val (.int p5), .val (.int d0), .val (.int d1), .val (.int d2), .val (.int c0), .val (.int c1), .val (.int c2), .unset, .unset, .unset, .unset, .unset, .unset, .unset, .unset, .unset, .unset, .unset, .unset, .unset, .unset] [])) _
      refine XS.iconst X0.here hx rfl (hb hby at_61) ?_
      show Steps p.tables e below (s₁.setTop (mkF m 62 #[.val (.int p0), .val (.int p1), .val (.int p2), .val (.int p3), .val (.int p4), .val (.int p5), .val (.int d0), .val (.int d1), .val (.int d2), .val (.int c0), .val (.int c1), .val (.int c2), .unset, .unset, .unset, .unset, .unset, .unset, .unset, .unset, .unset, .unset, .unset, .unset, .unset, .unset] [(.int (1 : Int32))])) _
      refine XS.goto X0.here hx rfl (pc0 := 62) (pc' := 66) rfl (hb hby at_62) (by decide) (by decide) ?_
      exact k
  refine OGo.st st1 ?_
  show OGo p.tables e below _ (s₁.setTop (mkF m 66 #[.val (.int p0), .val (.int p1), .val (.int p2), .val (.int p3), .val (.int p4), .val (.int p5), .val (.int d0), .val (.int d1), .val (.int d2), .val (.int c0), .val (.int c1), .val (.int c2), .unset, .unset, .unset, .unset, .unset, .unset, .unset, .unset, .unset, .unset, .unset, .unset, .unset, .unset] [(.int ve)]))
  refine OGo.st (fun _ k_ => XS.istore X0.here hx rfl (hb hby at_66) rfl (l' := #[.val (.int p0), .val (.int p1), .val (.int p2), .val (.int p3), .val (.int p4), .val (.int p5), .val (.int d0), .val (.int d1), .val (.int d2), .val (.int c0), .val (.int c1), .val (.int c2), .val (.int ve), .unset, .unset, .unset, .unset, .unset, .unset, .unset, .unset, .unset, .unset, .unset, .unset, .unset]) rfl k_) ?_
  show OGo p.tables e below _ (s₁.setTop (mkF m 68 #[.val (.int p0), .val (.int p1), .val (.int p2), .val (.int p3), .val (.int p4), .val (.int p5), .val (.int d0), .val (.int d1), .val (.int d2), .val (.int c0), .val (.int c1), .val (.int c2), .val (.int ve), .unset, .unset, .unset, .unset, .unset, .unset, .unset, .unset, .unset, .unset, .unset, .unset, .unset] []))
  refine OGo.st (fun _ k_ => XS.iload X0.here hx rfl (hb hby at_68) rfl k_) ?_
  show OGo p.tables e below _ (s₁.setTop (mkF m 70 #[.val (.int p0), .val (.int p1), .val (.int p2), .val (.int p3), .val (.int p4), .val (.int p5), .val (.int d0), .val (.int d1), .val (.int d2), .val (.int c0), .val (.int c1), .val (.int c2), .val (.int ve), .unset, .unset, .unset, .unset, .unset, .unset, .unset, .unset, .unset, .unset, .unset, .unset, .unset] [(.int c0)]))
  refine OGo.st (fun _ k_ => XS.istore X0.here hx rfl (hb hby at_70) rfl (l' := #[.val (.int p0), .val (.int p1), .val (.int p2), .val (.int p3), .val (.int p4), .val (.int p5), .val (.int d0), .val (.int d1), .val (.int d2), .val (.int c0), .val (.int c1), .val (.int c2), .val (.int ve), .val (.int c0), .unset, .unset, .unset, .unset, .unset, .unset, .unset, .unset, .unset, .unset, .unset, .unset]) rfl k_) ?_
  show OGo p.tables e below _ (s₁.setTop (mkF m 72 #[.val (.int p0), .val (.int p1), .val (.int p2), .val (.int p3), .val (.int p4), .val (.int p5), .val (.int d0), .val (.int d1), .val (.int d2), .val (.int c0), .val (.int c1), .val (.int c2), .val (.int ve), .val (.int c0), .unset, .unset, .unset, .unset, .unset, .unset, .unset, .unset, .unset, .unset, .unset, .unset] []))
  refine OGo.st (fun _ k_ => XS.iload X0.here hx rfl (hb hby at_72) rfl k_) ?_
  show OGo p.tables e below _ (s₁.setTop (mkF m 74 #[.val (.int p0), .val (.int p1), .val (.int p2), .val (.int p3), .val (.int p4), .val (.int p5), .val (.int d0), .val (.int d1), .val (.int d2), .val (.int c0), .val (.int c1), .val (.int c2), .val (.int ve), .val (.int c0), .unset, .unset, .unset, .unset, .unset, .unset, .unset, .unset, .unset, .unset, .unset, .unset] [(.int c0)]))
  refine OGo.st (fun _ k_ => XS.iload X0.here hx rfl (hb hby at_74) rfl k_) ?_
  show OGo p.tables e below _ (s₁.setTop (mkF m 76 #[.val (.int p0), .val (.int p1), .val (.int p2), .val (.int p3), .val (.int p4), .val (.int p5), .val (.int d0), .val (.int d1), .val (.int d2), .val (.int c0), .val (.int c1), .val (.int c2), .val (.int ve), .val (.int c0), .unset, .unset, .unset, .unset, .unset, .unset, .unset, .unset, .unset, .unset, .unset, .unset] [(.int c1), (.int c0)]))
  refine OGo.st (fun _ k_ => XS.iadd X0.here hx rfl (hb hby at_76) rfl k_) ?_
  show OGo p.tables e below _ (s₁.setTop (mkF m 77 #[.val (.int p0), .val (.int p1), .val (.int p2), .val (.int p3), .val (.int p4), .val (.int p5), .val (.int d0), .val (.int d1), .val (.int d2), .val (.int c0), .val (.int c1), .val (.int c2), .val (.int ve), .val (.int c0), .unset, .unset, .unset, .unset, .unset, .unset, .unset, .unset, .unset, .unset, .unset, .unset] [(.int (c0 + c1))]))
  obtain ⟨s2, hs2⟩ : ∃ z : Int32, z = (c0 + c1) := ⟨_, rfl⟩
  rw [← hs2]
  show OGo p.tables e below _ (s₁.setTop (mkF m 77 #[.val (.int p0), .val (.int p1), .val (.int p2), .val (.int p3), .val (.int p4), .val (.int p5), .val (.int d0), .val (.int d1), .val (.int d2), .val (.int c0), .val (.int c1), .val (.int c2), .val (.int ve), .val (.int c0), .unset, .unset, .unset, .unset, .unset, .unset, .unset, .unset, .unset, .unset, .unset, .unset] [(.int s2)]))
  refine OGo.st (fun _ k_ => XS.istore X0.here hx rfl (hb hby at_77) rfl (l' := #[.val (.int p0), .val (.int p1), .val (.int p2), .val (.int p3), .val (.int p4), .val (.int p5), .val (.int d0), .val (.int d1), .val (.int d2), .val (.int c0), .val (.int c1), .val (.int c2), .val (.int ve), .val (.int c0), .val (.int s2), .unset, .unset, .unset, .unset, .unset, .unset, .unset, .unset, .unset, .unset, .unset]) rfl k_) ?_
  show OGo p.tables e below _ (s₁.setTop (mkF m 79 #[.val (.int p0), .val (.int p1), .val (.int p2), .val (.int p3), .val (.int p4), .val (.int p5), .val (.int d0), .val (.int d1), .val (.int d2), .val (.int c0), .val (.int c1), .val (.int c2), .val (.int ve), .val (.int c0), .val (.int s2), .unset, .unset, .unset, .unset, .unset, .unset, .unset, .unset, .unset, .unset, .unset] []))
  refine OGo.st (fun _ k_ => XS.iload X0.here hx rfl (hb hby at_79) rfl k_) ?_
  show OGo p.tables e below _ (s₁.setTop (mkF m 81 #[.val (.int p0), .val (.int p1), .val (.int p2), .val (.int p3), .val (.int p4), .val (.int p5), .val (.int d0), .val (.int d1), .val (.int d2), .val (.int c0), .val (.int c1), .val (.int c2), .val (.int ve), .val (.int c0), .val (.int s2), .unset, .unset, .unset, .unset, .unset, .unset, .unset, .unset, .unset, .unset, .unset] [(.int s2)]))
  refine OGo.st (fun _ k_ => XS.iload X0.here hx rfl (hb hby at_81) rfl k_) ?_
  show OGo p.tables e below _ (s₁.setTop (mkF m 83 #[.val (.int p0), .val (.int p1), .val (.int p2), .val (.int p3), .val (.int p4), .val (.int p5), .val (.int d0), .val (.int d1), .val (.int d2), .val (.int c0), .val (.int c1), .val (.int c2), .val (.int ve), .val (.int c0), .val (.int s2), .unset, .unset, .unset, .unset, .unset, .unset, .unset, .unset, .unset, .unset, .unset] [(.int c2), (.int s2)]))
  refine OGo.st (fun _ k_ => XS.iadd X0.here hx rfl (hb hby at_83) rfl k_) ?_
  show OGo p.tables e below _ (s₁.setTop (mkF m 84 #[.val (.int p0), .val (.int p1), .val (.int p2), .val (.int p3), .val (.int p4), .val (.int p5), .val (.int d0), .val (.int d1), .val (.int d2), .val (.int c0), .val (.int c1), .val (.int c2), .val (.int ve), .val (.int c0), .val (.int s2), .unset, .unset, .unset, .unset, .unset, .unset, .unset, .unset, .unset, .unset, .unset] [(.int (s2 + c2))]))
  obtain ⟨s3, hs3⟩ : ∃ z : Int32, z = (s2 + c2) := ⟨_, rfl⟩
  rw [← hs3]
  have hs := own_ss hc hs2 hs3
  show OGo p.tables e below _ (s₁.setTop (mkF m 84 #[.val (.int p0), .val (.int p1), .val (.int p2), .val (.int p3), .val (.int p4), .val (.int p5), .val (.int d0), .val (.int d1), .val (.int d2), .val (.int c0), .val (.int c1), .val (.int c2), .val (.int ve), .val (.int c0), .val (.int s2), .unset, .unset, .unset, .unset, .unset, .unset, .unset, .unset, .unset, .unset, .unset] [(.int s3)]))
  refine OGo.st (fun _ k_ => XS.istore X0.here hx rfl (hb hby at_84) rfl (l' := #[.val (.int p0), .val (.int p1), .val (.int p2), .val (.int p3), .val (.int p4), .val (.int p5), .val (.int d0), .val (.int d1), .val (.int d2), .val (.int c0), .val (.int c1), .val (.int c2), .val (.int ve), .val (.int c0), .val (.int s2), .val (.int s3), .unset, .unset, .unset, .unset, .unset, .unset, .unset, .unset, .unset, .unset]) rfl k_) ?_
  show OGo p.tables e below _ (s₁.setTop (mkF m 86 #[.val (.int p0), .val (.int p1), .val (.int p2), .val (.int p3), .val (.int p4), .val (.int p5), .val (.int d0), .val (.int d1), .val (.int d2), .val (.int c0), .val (.int c1), .val (.int c2), .val (.int ve), .val (.int c0), .val (.int s2), .val (.int s3), .unset, .unset, .unset, .unset, .unset, .unset, .unset, .unset, .unset, .unset] []))
  refine OGo.st (fun _ k_ => XS.iload X0.here hx rfl (hb hby at_86) rfl k_) ?_
  show OGo p.tables e below _ (s₁.setTop (mkF m 88 #[.val (.int p0), .val (.int p1), .val (.int p2), .val (.int p3), .val (.int p4), .val (.int p5), .val (.int d0), .val (.int d1), .val (.int d2), .val (.int c0), .val (.int c1), .val (.int c2), .val (.int ve), .val (.int c0), .val (.int s2), .val (.int s3), .unset, .unset, .unset, .unset, .unset, .unset, .unset, .unset, .unset, .unset] [(.int p5)]))
  refine OGo.st (fun _ k_ => XS.iconst X0.here hx rfl (hb hby at_88) k_) ?_
  show OGo p.tables e below _ (s₁.setTop (mkF m 89 #[.val (.int p0), .val (.int p1), .val (.int p2), .val (.int p3), .val (.int p4), .val (.int p5), .val (.int d0), .val (.int d1), .val (.int d2), .val (.int c0), .val (.int c1), .val (.int c2), .val (.int ve), .val (.int c0), .val (.int s2), .val (.int s3), .unset, .unset, .unset, .unset, .unset, .unset, .unset, .unset, .unset, .unset] [(.int (4 : Int32)), (.int p5)]))
  refine OGo.st (fun _ k_ => XS.ishr X0.here hx rfl (hb hby at_89) rfl k_) ?_
  show OGo p.tables e below _ (s₁.setTop (mkF m 90 #[.val (.int p0), .val (.int p1), .val (.int p2), .val (.int p3), .val (.int p4), .val (.int p5), .val (.int d0), .val (.int d1), .val (.int d2), .val (.int c0), .val (.int c1), .val (.int c2), .val (.int ve), .val (.int c0), .val (.int s2), .val (.int s3), .unset, .unset, .unset, .unset, .unset, .unset, .unset, .unset, .unset, .unset] [(.int (p5 >>> ((4 : Int32) &&& 31)))]))
  obtain ⟨base, hbase⟩ : ∃ z : Int32, z = (p5 >>> ((4 : Int32) &&& 31)) := ⟨_, rfl⟩
  rw [← hbase]
  show OGo p.tables e below _ (s₁.setTop (mkF m 90 #[.val (.int p0), .val (.int p1), .val (.int p2), .val (.int p3), .val (.int p4), .val (.int p5), .val (.int d0), .val (.int d1), .val (.int d2), .val (.int c0), .val (.int c1), .val (.int c2), .val (.int ve), .val (.int c0), .val (.int s2), .val (.int s3), .unset, .unset, .unset, .unset, .unset, .unset, .unset, .unset, .unset, .unset] [(.int base)]))
  refine OGo.st (fun _ k_ => XS.istore X0.here hx rfl (hb hby at_90) rfl (l' := #[.val (.int p0), .val (.int p1), .val (.int p2), .val (.int p3), .val (.int p4), .val (.int p5), .val (.int d0), .val (.int d1), .val (.int d2), .val (.int c0), .val (.int c1), .val (.int c2), .val (.int ve), .val (.int c0), .val (.int s2), .val (.int s3), .val (.int base), .unset, .unset, .unset, .unset, .unset, .unset, .unset, .unset, .unset]) rfl k_) ?_
  show OGo p.tables e below _ (s₁.setTop (mkF m 92 #[.val (.int p0), .val (.int p1), .val (.int p2), .val (.int p3), .val (.int p4), .val (.int p5), .val (.int d0), .val (.int d1), .val (.int d2), .val (.int c0), .val (.int c1), .val (.int c2), .val (.int ve), .val (.int c0), .val (.int s2), .val (.int s3), .val (.int base), .unset, .unset, .unset, .unset, .unset, .unset, .unset, .unset, .unset] []))
  refine OGo.st (fun _ k_ => XS.bipush X0.here hx rfl (hb hby at_92) k_) ?_
  show OGo p.tables e below _ (s₁.setTop (mkF m 94 #[.val (.int p0), .val (.int p1), .val (.int p2), .val (.int p3), .val (.int p4), .val (.int p5), .val (.int d0), .val (.int d1), .val (.int d2), .val (.int c0), .val (.int c1), .val (.int c2), .val (.int ve), .val (.int c0), .val (.int s2), .val (.int s3), .val (.int base), .unset, .unset, .unset, .unset, .unset, .unset, .unset, .unset, .unset] [(.int (9 : Int32))]))
  obtain ⟨T2, hz2, kz2, X2, ez2, Ez2, Az2, st2⟩ := newP X0 hx hZ (hw _ (List.mem_of_getElem? (i := 1) rfl)) e0 (g := (mkF m 94 #[.val (.int p0), .val (.int p1), .val (.int p2), .val (.int p3), .val (.int p4), .val (.int p5), .val (.int d0), .val (.int d1), .val (.int d2), .val (.int c0), .val (.int c1), .val (.int c2), .val (.int ve), .val (.int c0), .val (.int s2), .val (.int s3), .val (.int base), .unset, .unset, .unset, .unset, .unset, .unset, .unset, .unset, .unset] [(.int (9 : Int32))])) rfl (hb hby at_94) rfl (by decide) (cap := 9) (by decide) (by decide) (by decide) (by decide)
  obtain ⟨bz2, g2⟩ : ∃ z, z = h0.size := ⟨_, rfl⟩
  rw [← g2] at Az2 st2
  have g_bz2 : n0 ≤ bz2 := Nat.le_trans (Nat.le_trans Z0 (Keep.refl h0 []).1) (Nat.le_of_eq g2.symm)
  have sz_bz2 : h0.size ≤ bz2 := Nat.le_trans (Keep.refl h0 []).1 (Nat.le_of_eq g2.symm)
  have K_3 : Keep h0 hz2 [] := (Keep.refl h0 []).ext Ez2
  have V_bz2 : Arf Z hz2 bz2 kz2 .int (9 : Int32) (fun _ => (.int (0 : Int32))) := own_new Az2 (by decide)
  refine OGo.st st2 ?_
  show OGo p.tables e below _ (T2.setTop (mkF m 96 #[.val (.int p0), .val (.int p1), .val (.int p2), .val (.int p3), .val (.int p4), .val (.int p5), .val (.int d0), .val (.int d1), .val (.int d2), .val (.int c0), .val (.int c1), .val (.int c2), .val (.int ve), .val (.int c0), .val (.int s2), .val (.int s3), .val (.int base), .unset, .unset, .unset, .unset, .unset, .unset, .unset, .unset, .unset] [(.ref bz2)]))
  refine OGo.st (fun _ k_ => XS.astore X2.here hx rfl (hb hby at_96) rfl rfl (l' := #[.val (.int p0), .val (.int p1), .val (.int p2), .val (.int p3), .val (.int p4), .val (.int p5), .val (.int d0), .val (.int d1), .val (.int d2), .val (.int c0), .val (.int c1), .val (.int c2), .val (.int ve), .val (.int c0), .val (.int s2), .val (.int s3), .val (.int base), .val (.ref bz2), .unset, .unset, .unset, .unset, .unset, .unset, .unset, .unset]) rfl k_) ?_
  show OGo p.tables e below _ (T2.setTop (mkF m 98 #[.val (.int p0), .val (.int p1), .val (.int p2), .val (.int p3), .val (.int p4), .val (.int p5), .val (.int d0), .val (.int d1), .val (.int d2), .val (.int c0), .val (.int c1), .val (.int c2), .val (.int ve), .val (.int c0), .val (.int s2), .val (.int s3), .val (.int base), .val (.ref bz2), .unset, .unset, .unset, .unset, .unset, .unset, .unset, .unset] []))
  refine OGo.st (fun _ k_ => XS.aload X2.here hx rfl (hb hby at_98) rfl rfl k_) ?_
  show OGo p.tables e below _ (T2.setTop (mkF m 100 #[.val (.int p0), .val (.int p1), .val (.int p2), .val (.int p3), .val (.int p4), .val (.int p5), .val (.int d0), .val (.int d1), .val (.int d2), .val (.int c0), .val (.int c1), .val (.int c2), .val (.int ve), .val (.int c0), .val (.int s2), .val (.int s3), .val (.int base), .val (.ref bz2), .unset, .unset, .unset, .unset, .unset, .unset, .unset, .unset] [(.ref bz2)]))
  refine OGo.st (fun _ k_ => XS.iconst X2.here hx rfl (hb hby at_100) k_) ?_
  show OGo p.tables e below _ (T2.setTop (mkF m 101 #[.val (.int p0), .val (.int p1), .val (.int p2), .val (.int p3), .val (.int p4), .val (.int p5), .val (.int d0), .val (.int d1), .val (.int d2), .val (.int c0), .val (.int c1), .val (.int c2), .val (.int ve), .val (.int c0), .val (.int s2), .val (.int s3), .val (.int base), .val (.ref bz2), .unset, .unset, .unset, .unset, .unset, .unset, .unset, .unset] [(.int (0 : Int32)), (.ref bz2)]))
  refine OGo.st (fun _ k_ => XS.iload X2.here hx rfl (hb hby at_101) rfl k_) ?_
  show OGo p.tables e below _ (T2.setTop (mkF m 103 #[.val (.int p0), .val (.int p1), .val (.int p2), .val (.int p3), .val (.int p4), .val (.int p5), .val (.int d0), .val (.int d1), .val (.int d2), .val (.int c0), .val (.int c1), .val (.int c2), .val (.int ve), .val (.int c0), .val (.int s2), .val (.int s3), .val (.int base), .val (.ref bz2), .unset, .unset, .unset, .unset, .unset, .unset, .unset, .unset] [(.int base), (.int (0 : Int32)), (.ref bz2)]))
  obtain ⟨T4, hz4, X4, ez4, W4, V4, st4⟩ := own_stI X2 hx hZ ez2 V_bz2 (j := (0 : Int32)) (by decide)  (g := (mkF m 103 #[.val (.int p0), .val (.int p1), .val (.int p2), .val (.int p3), .val (.int p4), .val (.int p5), .val (.int d0), .val (.int d1), .val (.int d2), .val (.int c0), .val (.int c1), .val (.int c2), .val (.int ve), .val (.int c0), .val (.int s2), .val (.int s3), .val (.int base), .val (.ref bz2), .unset, .unset, .unset, .unset, .unset, .unset, .unset, .unset] [(.int base), (.int (0 : Int32)), (.ref bz2)])) rfl rfl (hb hby at_103)
  have N4 := Fr.snoc X4 N0 g_bz2
  have K_5 : Keep h0 hz4 [] := K_3.wr W4 (Or.inr sz_bz2)
  refine OGo.st st4 ?_
  show OGo p.tables e below _ (T4.setTop (mkF m 104 #[.val (.int p0), .val (.int p1), .val (.int p2), .val (.int p3), .val (.int p4), .val (.int p5), .val (.int d0), .val (.int d1), .val (.int d2), .val (.int c0), .val (.int c1), .val (.int c2), .val (.int ve), .val (.int c0), .val (.int s2), .val (.int s3), .val (.int base), .val (.ref bz2), .unset, .unset, .unset, .unset, .unset, .unset, .unset, .unset] []))
  refine OGo.st (fun _ k_ => XS.aload X4.here hx rfl (hb hby at_104) rfl rfl k_) ?_
  show OGo p.tables e below _ (T4.setTop (mkF m 106 #[.val (.int p0), .val (.int p1), .val (.int p2), .val (.int p3), .val (.int p4), .val (.int p5), .val (.int d0), .val (.int d1), .val (.int d2), .val (.int c0), .val (.int c1), .val (.int c2), .val (.int ve), .val (.int c0), .val (.int s2), .val (.int s3), .val (.int base), .val (.ref bz2), .unset, .unset, .unset, .unset, .unset, .unset, .unset, .unset] [(.ref bz2)]))
  refine OGo.st (fun _ k_ => XS.iconst X4.here hx rfl (hb hby at_106) k_) ?_
  show OGo p.tables e below _ (T4.setTop (mkF m 107 #[.val (.int p0), .val (.int p1), .val (.int p2), .val (.int p3), .val (.int p4), .val (.int p5), .val (.int d0), .val (.int d1), .val (.int d2), .val (.int c0), .val (.int c1), .val (.int c2), .val (.int ve), .val (.int c0), .val (.int s2), .val (.int s3), .val (.int base), .val (.ref bz2), .unset, .unset, .unset, .unset, .unset, .unset, .unset, .unset] [(.int (1 : Int32)), (.ref bz2)]))
  refine OGo.st (fun _ k_ => XS.iload X4.here hx rfl (hb hby at_107) rfl k_) ?_
  show OGo p.tables e below _ (T4.setTop (mkF m 109 #[.val (.int p0), .val (.int p1), .val (.int p2), .val (.int p3), .val (.int p4), .val (.int p5), .val (.int d0), .val (.int d1), .val (.int d2), .val (.int c0), .val (.int c1), .val (.int c2), .val (.int ve), .val (.int c0), .val (.int s2), .val (.int s3), .val (.int base), .val (.ref bz2), .unset, .unset, .unset, .unset, .unset, .unset, .unset, .unset] [(.int base), (.int (1 : Int32)), (.ref bz2)]))
  refine OGo.st (fun _ k_ => XS.iconst X4.here hx rfl (hb hby at_109) k_) ?_
  show OGo p.tables e below _ (T4.setTop (mkF m 110 #[.val (.int p0), .val (.int p1), .val (.int p2), .val (.int p3), .val (.int p4), .val (.int p5), .val (.int d0), .val (.int d1), .val (.int d2), .val (.int c0), .val (.int c1), .val (.int c2), .val (.int ve), .val (.int c0), .val (.int s2), .val (.int s3), .val (.int base), .val (.ref bz2), .unset, .unset, .unset, .unset, .unset, .unset, .unset, .unset] [(.int (3 : Int32)), (.int base), (.int (1 : Int32)), (.ref bz2)]))
  refine OGo.st (fun _ k_ => XS.iadd X4.here hx rfl (hb hby at_110) rfl k_) ?_
  show OGo p.tables e below _ (T4.setTop (mkF m 111 #[.val (.int p0), .val (.int p1), .val (.int p2), .val (.int p3), .val (.int p4), .val (.int p5), .val (.int d0), .val (.int d1), .val (.int d2), .val (.int c0), .val (.int c1), .val (.int c2), .val (.int ve), .val (.int c0), .val (.int s2), .val (.int s3), .val (.int base), .val (.ref bz2), .unset, .unset, .unset, .unset, .unset, .unset, .unset, .unset] [(.int (base + (3 : Int32))), (.int (1 : Int32)), (.ref bz2)]))
  obtain ⟨T6, hz6, X6, ez6, W6, V6, st6⟩ := own_stI X4 hx hZ ez4 V4 (j := (1 : Int32)) (by decide)  (g := (mkF m 111 #[.val (.int p0), .val (.int p1), .val (.int p2), .val (.int p3), .val (.int p4), .val (.int p5), .val (.int d0), .val (.int d1), .val (.int d2), .val (.int c0), .val (.int c1), .val (.int c2), .val (.int ve), .val (.int c0), .val (.int s2), .val (.int s3), .val (.int base), .val (.ref bz2), .unset, .unset, .unset, .unset, .unset, .unset, .unset, .unset] [(.int (base + (3 : Int32))), (.int (1 : Int32)), (.ref bz2)])) rfl rfl (hb hby at_111)
  have N6 := Fr.snoc X6 N4 g_bz2
  have K_7 : Keep h0 hz6 [] := K_5.wr W6 (Or.inr sz_bz2)
  refine OGo.st st6 ?_
  show OGo p.tables e below _ (T6.setTop (mkF m 112 #[.val (.int p0), .val (.int p1), .val (.int p2), .val (.int p3), .val (.int p4), .val (.int p5), .val (.int d0), .val (.int d1), .val (.int d2), .val (.int c0), .val (.int c1), .val (.int c2), .val (.int ve), .val (.int c0), .val (.int s2), .val (.int s3), .val (.int base), .val (.ref bz2), .unset, .unset, .unset, .unset, .unset, .unset, .unset, .unset] []))
  refine OGo.st (fun _ k_ => XS.aload X6.here hx rfl (hb hby at_112) rfl rfl k_) ?_
  show OGo p.tables e below _ (T6.setTop (mkF m 114 #[.val (.int p0), .val (.int p1), .val (.int p2), .val (.int p3), .val (.int p4), .val (.int p5), .val (.int d0), .val (.int d1), .val (.int d2), .val (.int c0), .val (.int c1), .val (.int c2), .val (.int ve), .val (.int c0), .val (.int s2), .val (.int s3), .val (.int base), .val (.ref bz2), .unset, .unset, .unset, .unset, .unset, .unset, .unset, .unset] [(.ref bz2)]))
  refine OGo.st (fun _ k_ => XS.iconst X6.here hx rfl (hb hby at_114) k_) ?_
  show OGo p.tables e below _ (T6.setTop (mkF m 115 #[.val (.int p0), .val (.int p1), .val (.int p2), .val (.int p3), .val (.int p4), .val (.int p5), .val (.int d0), .val (.int d1), .val (.int d2), .val (.int c0), .val (.int c1), .val (.int c2), .val (.int ve), .val (.int c0), .val (.int s2), .val (.int s3), .val (.int base), .val (.ref bz2), .unset, .unset, .unset, .unset, .unset, .unset, .unset, .unset] [(.int (2 : Int32)), (.ref bz2)]))
  refine OGo.st (fun _ k_ => XS.iload X6.here hx rfl (hb hby at_115) rfl k_) ?_
  show OGo p.tables e below _ (T6.setTop (mkF m 117 #[.val (.int p0), .val (.int p1), .val (.int p2), .val (.int p3), .val (.int p4), .val (.int p5), .val (.int d0), .val (.int d1), .val (.int d2), .val (.int c0), .val (.int c1), .val (.int c2), .val (.int ve), .val (.int c0), .val (.int s2), .val (.int s3), .val (.int base), .val (.ref bz2), .unset, .unset, .unset, .unset, .unset, .unset, .unset, .unset] [(.int base), (.int (2 : Int32)), (.ref bz2)]))
  refine OGo.st (fun _ k_ => XS.bipush X6.here hx rfl (hb hby at_117) k_) ?_
  show OGo p.tables e below _ (T6.setTop (mkF m 119 #[.val (.int p0), .val (.int p1), .val (.int p2), .val (.int p3), .val (.int p4), .val (.int p5), .val (.int d0), .val (.int d1), .val (.int d2), .val (.int c0), .val (.int c1), .val (.int c2), .val (.int ve), .val (.int c0), .val (.int s2), .val (.int s3), .val (.int base), .val (.ref bz2), .unset, .unset, .unset, .unset, .unset, .unset, .unset, .unset] [(.int (6 : Int32)), (.int base), (.int (2 : Int32)), (.ref bz2)]))
  refine OGo.st (fun _ k_ => XS.iadd X6.here hx rfl (hb hby at_119) rfl k_) ?_
  show OGo p.tables e below _ (T6.setTop (mkF m 120 #[.val (.int p0), .val (.int p1), .val (.int p2), .val (.int p3), .val (.int p4), .val (.int p5), .val (.int d0), .val (.int d1), .val (.int d2), .val (.int c0), .val (.int c1), .val (.int c2), .val (.int ve), .val (.int c0), .val (.int s2), .val (.int s3), .val (.int base), .val (.ref bz2), .unset, .unset, .unset, .unset, .unset, .unset, .unset, .unset] [(.int (base + (6 : Int32))), (.int (2 : Int32)), (.ref bz2)]))
  obtain ⟨T8, hz8, X8, ez8, W8, V8, st8⟩ := own_stI X6 hx hZ ez6 V6 (j := (2 : Int32)) (by decide)  (g := (mkF m 120 #[.val (.int p0), .val (.int p1), .val (.int p2), .val (.int p3), .val (.int p4), .val (.int p5), .val (.int d0), .val (.int d1), .val (.int d2), .val (.int c0), .val (.int c1), .val (.int c2), .val (.int ve), .val (.int c0), .val (.int s2), .val (.int s3), .val (.int base), .val (.ref bz2), .unset, .unset, .unset, .unset, .unset, .unset, .unset, .unset] [(.int (base + (6 : Int32))), (.int (2 : Int32)), (.ref bz2)])) rfl rfl (hb hby at_120)
  have N8 := Fr.snoc X8 N6 g_bz2
  have K_9 : Keep h0 hz8 [] := K_7.wr W8 (Or.inr sz_bz2)
  refine OGo.st st8 ?_
  show OGo p.tables e below _ (T8.setTop (mkF m 121 #[.val (.int p0), .val (.int p1), .val (.int p2), .val (.int p3), .val (.int p4), .val (.int p5), .val (.int d0), .val (.int d1), .val (.int d2), .val (.int c0), .val (.int c1), .val (.int c2), .val (.int ve), .val (.int c0), .val (.int s2), .val (.int s3), .val (.int base), .val (.ref bz2), .unset, .unset, .unset, .unset, .unset, .unset, .unset, .unset] []))
  refine OGo.st (fun _ k_ => XS.aload X8.here hx rfl (hb hby at_121) rfl rfl k_) ?_
  show OGo p.tables e below _ (T8.setTop (mkF m 123 #[.val (.int p0), .val (.int p1), .val (.int p2), .val (.int p3), .val (.int p4), .val (.int p5), .val (.int d0), .val (.int d1), .val (.int d2), .val (.int c0), .val (.int c1), .val (.int c2), .val (.int ve), .val (.int c0), .val (.int s2), .val (.int s3), .val (.int base), .val (.ref bz2), .unset, .unset, .unset, .unset, .unset, .unset, .unset, .unset] [(.ref bz2)]))
  refine OGo.st (fun _ k_ => XS.iconst X8.here hx rfl (hb hby at_123) k_) ?_
  show OGo p.tables e below _ (T8.setTop (mkF m 124 #[.val (.int p0), .val (.int p1), .val (.int p2), .val (.int p3), .val (.int p4), .val (.int p5), .val (.int d0), .val (.int d1), .val (.int d2), .val (.int c0), .val (.int c1), .val (.int c2), .val (.int ve), .val (.int c0), .val (.int s2), .val (.int s3), .val (.int base), .val (.ref bz2), .unset, .unset, .unset, .unset, .unset, .unset, .unset, .unset] [(.int (3 : Int32)), (.ref bz2)]))
  refine OGo.st (fun _ k_ => XS.iload X8.here hx rfl (hb hby at_124) rfl k_) ?_
  show OGo p.tables e below _ (T8.setTop (mkF m 126 #[.val (.int p0), .val (.int p1), .val (.int p2), .val (.int p3), .val (.int p4), .val (.int p5), .val (.int d0), .val (.int d1), .val (.int d2), .val (.int c0), .val (.int c1), .val (.int c2), .val (.int ve), .val (.int c0), .val (.int s2), .val (.int s3), .val (.int base), .val (.ref bz2), .unset, .unset, .unset, .unset, .unset, .unset, .unset, .unset] [(.int base), (.int (3 : Int32)), (.ref bz2)]))
  refine OGo.st (fun _ k_ => XS.bipush X8.here hx rfl (hb hby at_126) k_) ?_
  show OGo p.tables e below _ (T8.setTop (mkF m 128 #[.val (.int p0), .val (.int p1), .val (.int p2), .val (.int p3), .val (.int p4), .val (.int p5), .val (.int d0), .val (.int d1), .val (.int d2), .val (.int c0), .val (.int c1), .val (.int c2), .val (.int ve), .val (.int c0), .val (.int s2), .val (.int s3), .val (.int base), .val (.ref bz2), .unset, .unset, .unset, .unset, .unset, .unset, .unset, .unset] [(.int (9 : Int32)), (.int base), (.int (3 : Int32)), (.ref bz2)]))
  refine OGo.st (fun _ k_ => XS.iadd X8.here hx rfl (hb hby at_128) rfl k_) ?_
  show OGo p.tables e below _ (T8.setTop (mkF m 129 #[.val (.int p0), .val (.int p1), .val (.int p2), .val (.int p3), .val (.int p4), .val (.int p5), .val (.int d0), .val (.int d1), .val (.int d2), .val (.int c0), .val (.int c1), .val (.int c2), .val (.int ve), .val (.int c0), .val (.int s2), .val (.int s3), .val (.int base), .val (.ref bz2), .unset, .unset, .unset, .unset, .unset, .unset, .unset, .unset] [(.int (base + (9 : Int32))), (.int (3 : Int32)), (.ref bz2)]))
  obtain ⟨T10, hz10, X10, ez10, W10, V10, st10⟩ := own_stI X8 hx hZ ez8 V8 (j := (3 : Int32)) (by decide)  (g := (mkF m 129 #[.val (.int p0), .val (.int p1), .val (.int p2), .val (.int p3), .val (.int p4), .val (.int p5), .val (.int d0), .val (.int d1), .val (.int d2), .val (.int c0), .val (.int c1), .val (.int c2), .val (.int ve), .val (.int c0), .val (.int s2), .val (.int s3), .val (.int base), .val (.ref bz2), .unset, .unset, .unset, .unset, .unset, .unset, .unset, .unset] [(.int (base + (9 : Int32))), (.int (3 : Int32)), (.ref bz2)])) rfl rfl (hb hby at_129)
  have N10 := Fr.snoc X10 N8 g_bz2
  have K_11 : Keep h0 hz10 [] := K_9.wr W10 (Or.inr sz_bz2)
  refine OGo.st st10 ?_
  show OGo p.tables e below _ (T10.setTop (mkF m 130 #[.val (.int p0), .val (.int p1), .val (.int p2), .val (.int p3), .val (.int p4), .val (.int p5), .val (.int d0), .val (.int d1), .val (.int d2), .val (.int c0), .val (.int c1), .val (.int c2), .val (.int ve), .val (.int c0), .val (.int s2), .val (.int s3), .val (.int base), .val (.ref bz2), .unset, .unset, .unset, .unset, .unset, .unset, .unset, .unset] []))
  refine OGo.st (fun _ k_ => XS.aload X10.here hx rfl (hb hby at_130) rfl rfl k_) ?_
  show OGo p.tables e below _ (T10.setTop (mkF m 132 #[.val (.int p0), .val (.int p1), .val (.int p2), .val (.int p3), .val (.int p4), .val (.int p5), .val (.int d0), .val (.int d1), .val (.int d2), .val (.int c0), .val (.int c1), .val (.int c2), .val (.int ve), .val (.int c0), .val (.int s2), .val (.int s3), .val (.int base), .val (.ref bz2), .unset, .unset, .unset, .unset, .unset, .unset, .unset, .unset] [(.ref bz2)]))
  refine OGo.st (fun _ k_ => XS.iconst X10.here hx rfl (hb hby at_132) k_) ?_
  show OGo p.tables e below _ (T10.setTop (mkF m 133 #[.val (.int p0), .val (.int p1), .val (.int p2), .val (.int p3), .val (.int p4), .val (.int p5), .val (.int d0), .val (.int d1), .val (.int d2), .val (.int c0), .val (.int c1), .val (.int c2), .val (.int ve), .val (.int c0), .val (.int s2), .val (.int s3), .val (.int base), .val (.ref bz2), .unset, .unset, .unset, .unset, .unset, .unset, .unset, .unset] [(.int (4 : Int32)), (.ref bz2)]))
  refine OGo.st (fun _ k_ => XS.iload X10.here hx rfl (hb hby at_133) rfl k_) ?_
  show OGo p.tables e below _ (T10.setTop (mkF m 135 #[.val (.int p0), .val (.int p1), .val (.int p2), .val (.int p3), .val (.int p4), .val (.int p5), .val (.int d0), .val (.int d1), .val (.int d2), .val (.int c0), .val (.int c1), .val (.int c2), .val (.int ve), .val (.int c0), .val (.int s2), .val (.int s3), .val (.int base), .val (.ref bz2), .unset, .unset, .unset, .unset, .unset, .unset, .unset, .unset] [(.int base), (.int (4 : Int32)), (.ref bz2)]))
  refine OGo.st (fun _ k_ => XS.bipush X10.here hx rfl (hb hby at_135) k_) ?_
  show OGo p.tables e below _ (T10.setTop (mkF m 137 #[.val (.int p0), .val (.int p1), .val (.int p2), .val (.int p3), .val (.int p4), .val (.int p5), .val (.int d0), .val (.int d1), .val (.int d2), .val (.int c0), .val (.int c1), .val (.int c2), .val (.int ve), .val (.int c0), .val (.int s2), .val (.int s3), .val (.int base), .val (.ref bz2), .unset, .unset, .unset, .unset, .unset, .unset, .unset, .unset] [(.int (12 : Int32)), (.int base), (.int (4 : Int32)), (.ref bz2)]))
  refine OGo.st (fun _ k_ => XS.iadd X10.here hx rfl (hb hby at_137) rfl k_) ?_
  show OGo p.tables e below _ (T10.setTop (mkF m 138 #[.val (.int p0), .val (.int p1), .val (.int p2), .val (.int p3), .val (.int p4), .val (.int p5), .val (.int d0), .val (.int d1), .val (.int d2), .val (.int c0), .val (.int c1), .val (.int c2), .val (.int ve), .val (.int c0), .val (.int s2), .val (.int s3), .val (.int base), .val (.ref bz2), .unset, .unset, .unset, .unset, .unset, .unset, .unset, .unset] [(.int (base + (12 : Int32))), (.int (4 : Int32)), (.ref bz2)]))
  obtain ⟨T12, hz12, X12, ez12, W12, V12, st12⟩ := own_stI X10 hx hZ ez10 V10 (j := (4 : Int32)) (by decide)  (g := (mkF m 138 #[.val (.int p0), .val (.int p1), .val (.int p2), .val (.int p3), .val (.int p4), .val (.int p5), .val (.int d0), .val (.int d1), .val (.int d2), .val (.int c0), .val (.int c1), .val (.int c2), .val (.int ve), .val (.int c0), .val (.int s2), .val (.int s3), .val (.int base), .val (.ref bz2), .unset, .unset, .unset, .unset, .unset, .unset, .unset, .unset] [(.int (base + (12 : Int32))), (.int (4 : Int32)), (.ref bz2)])) rfl rfl (hb hby at_138)
  have N12 := Fr.snoc X12 N10 g_bz2
  have K_13 : Keep h0 hz12 [] := K_11.wr W12 (Or.inr sz_bz2)
  refine OGo.st st12 ?_
  show OGo p.tables e below _ (T12.setTop (mkF m 139 #[.val (.int p0), .val (.int p1), .val (.int p2), .val (.int p3), .val (.int p4), .val (.int p5), .val (.int d0), .val (.int d1), .val (.int d2), .val (.int c0), .val (.int c1), .val (.int c2), .val (.int ve), .val (.int c0), .val (.int s2), .val (.int s3), .val (.int base), .val (.ref bz2), .unset, .unset, .unset, .unset, .unset, .unset, .unset, .unset] []))
  refine OGo.st (fun _ k_ => XS.aload X12.here hx rfl (hb hby at_139) rfl rfl k_) ?_
  show OGo p.tables e below _ (T12.setTop (mkF m 141 #[.val (.int p0), .val (.int p1), .val (.int p2), .val (.int p3), .val (.int p4), .val (.int p5), .val (.int d0), .val (.int d1), .val (.int d2), .val (.int c0), .val (.int c1), .val (.int c2), .val (.int ve), .val (.int c0), .val (.int s2), .val (.int s3), .val (.int base), .val (.ref bz2), .unset, .unset, .unset, .unset, .unset, .unset, .unset, .unset] [(.ref bz2)]))
  refine OGo.st (fun _ k_ => XS.iconst X12.here hx rfl (hb hby at_141) k_) ?_
  show OGo p.tables e below _ (T12.setTop (mkF m 142 #[.val (.int p0), .val (.int p1), .val (.int p2), .val (.int p3), .val (.int p4), .val (.int p5), .val (.int d0), .val (.int d1), .val (.int d2), .val (.int c0), .val (.int c1), .val (.int c2), .val (.int ve), .val (.int c0), .val (.int s2), .val (.int s3), .val (.int base), .val (.ref bz2), .unset, .unset, .unset, .unset, .unset, .unset, .unset, .unset] [(.int (5 : Int32)), (.ref bz2)]))
  refine OGo.st (fun _ k_ => XS.iload X12.here hx rfl (hb hby at_142) rfl k_) ?_
  show OGo p.tables e below _ (T12.setTop (mkF m 144 #[.val (.int p0), .val (.int p1), .val (.int p2), .val (.int p3), .val (.int p4), .val (.int p5), .val (.int d0), .val (.int d1), .val (.int d2), .val (.int c0), .val (.int c1), .val (.int c2), .val (.int ve), .val (.int c0), .val (.int s2), .val (.int s3), .val (.int base), .val (.ref bz2), .unset, .unset, .unset, .unset, .unset, .unset, .unset, .unset] [(.int base), (.int (5 : Int32)), (.ref bz2)]))
  refine OGo.st (fun _ k_ => XS.bipush X12.here hx rfl (hb hby at_144) k_) ?_
  show OGo p.tables e below _ (T12.setTop (mkF m 146 #[.val (.int p0), .val (.int p1), .val (.int p2), .val (.int p3), .val (.int p4), .val (.int p5), .val (.int d0), .val (.int d1), .val (.int d2), .val (.int c0), .val (.int c1), .val (.int c2), .val (.int ve), .val (.int c0), .val (.int s2), .val (.int s3), .val (.int base), .val (.ref bz2), .unset, .unset, .unset, .unset, .unset, .unset, .unset, .unset] [(.int (15 : Int32)), (.int base), (.int (5 : Int32)), (.ref bz2)]))
  refine OGo.st (fun _ k_ => XS.iadd X12.here hx rfl (hb hby at_146) rfl k_) ?_
  show OGo p.tables e below _ (T12.setTop (mkF m 147 #[.val (.int p0), .val (.int p1), .val (.int p2), .val (.int p3), .val (.int p4), .val (.int p5), .val (.int d0), .val (.int d1), .val (.int d2), .val (.int c0), .val (.int c1), .val (.int c2), .val (.int ve), .val (.int c0), .val (.int s2), .val (.int s3), .val (.int base), .val (.ref bz2), .unset, .unset, .unset, .unset, .unset, .unset, .unset, .unset] [(.int (base + (15 : Int32))), (.int (5 : Int32)), (.ref bz2)]))
  obtain ⟨T14, hz14, X14, ez14, W14, V14, st14⟩ := own_stI X12 hx hZ ez12 V12 (j := (5 : Int32)) (by decide)  (g := (mkF m 147 #[.val (.int p0), .val (.int p1), .val (.int p2), .val (.int p3), .val (.int p4), .val (.int p5), .val (.int d0), .val (.int d1), .val (.int d2), .val (.int c0), .val (.int c1), .val (.int c2), .val (.int ve), .val (.int c0), .val (.int s2), .val (.int s3), .val (.int base), .val (.ref bz2), .unset, .unset, .unset, .unset, .unset, .unset, .unset, .unset] [(.int (base + (15 : Int32))), (.int (5 : Int32)), (.ref bz2)])) rfl rfl (hb hby at_147)
  have N14 := Fr.snoc X14 N12 g_bz2
  have K_15 : Keep h0 hz14 [] := K_13.wr W14 (Or.inr sz_bz2)
  refine OGo.st st14 ?_
  show OGo p.tables e below _ (T14.setTop (mkF m 148 #[.val (.int p0), .val (.int p1), .val (.int p2), .val (.int p3), .val (.int p4), .val (.int p5), .val (.int d0), .val (.int d1), .val (.int d2), .val (.int c0), .val (.int c1), .val (.int c2), .val (.int ve), .val (.int c0), .val (.int s2), .val (.int s3), .val (.int base), .val (.ref bz2), .unset, .unset, .unset, .unset, .unset, .unset, .unset, .unset] []))
  refine OGo.st (fun _ k_ => XS.aload X14.here hx rfl (hb hby at_148) rfl rfl k_) ?_
  show OGo p.tables e below _ (T14.setTop (mkF m 150 #[.val (.int p0), .val (.int p1), .val (.int p2), .val (.int p3), .val (.int p4), .val (.int p5), .val (.int d0), .val (.int d1), .val (.int d2), .val (.int c0), .val (.int c1), .val (.int c2), .val (.int ve), .val (.int c0), .val (.int s2), .val (.int s3), .val (.int base), .val (.ref bz2), .unset, .unset, .unset, .unset, .unset, .unset, .unset, .unset] [(.ref bz2)]))
  refine OGo.st (fun _ k_ => XS.bipush X14.here hx rfl (hb hby at_150) k_) ?_
  show OGo p.tables e below _ (T14.setTop (mkF m 152 #[.val (.int p0), .val (.int p1), .val (.int p2), .val (.int p3), .val (.int p4), .val (.int p5), .val (.int d0), .val (.int d1), .val (.int d2), .val (.int c0), .val (.int c1), .val (.int c2), .val (.int ve), .val (.int c0), .val (.int s2), .val (.int s3), .val (.int base), .val (.ref bz2), .unset, .unset, .unset, .unset, .unset, .unset, .unset, .unset] [(.int (6 : Int32)), (.ref bz2)]))
  refine OGo.st (fun _ k_ => XS.iload X14.here hx rfl (hb hby at_152) rfl k_) ?_
  show OGo p.tables e below _ (T14.setTop (mkF m 154 #[.val (.int p0), .val (.int p1), .val (.int p2), .val (.int p3), .val (.int p4), .val (.int p5), .val (.int d0), .val (.int d1), .val (.int d2), .val (.int c0), .val (.int c1), .val (.int c2), .val (.int ve), .val (.int c0), .val (.int s2), .val (.int s3), .val (.int base), .val (.ref bz2), .unset, .unset, .unset, .unset, .unset, .unset, .unset, .unset] [(.int base), (.int (6 : Int32)), (.ref bz2)]))
  refine OGo.st (fun _ k_ => XS.bipush X14.here hx rfl (hb hby at_154) k_) ?_
  show OGo p.tables e below _ (T14.setTop (mkF m 156 #[.val (.int p0), .val (.int p1), .val (.int p2), .val (.int p3), .val (.int p4), .val (.int p5), .val (.int d0), .val (.int d1), .val (.int d2), .val (.int c0), .val (.int c1), .val (.int c2), .val (.int ve), .val (.int c0), .val (.int s2), .val (.int s3), .val (.int base), .val (.ref bz2), .unset, .unset, .unset, .unset, .unset, .unset, .unset, .unset] [(.int (18 : Int32)), (.int base), (.int (6 : Int32)), (.ref bz2)]))
  refine OGo.st (fun _ k_ => XS.iadd X14.here hx rfl (hb hby at_156) rfl k_) ?_
  show OGo p.tables e below _ (T14.setTop (mkF m 157 #[.val (.int p0), .val (.int p1), .val (.int p2), .val (.int p3), .val (.int p4), .val (.int p5), .val (.int d0), .val (.int d1), .val (.int d2), .val (.int c0), .val (.int c1), .val (.int c2), .val (.int ve), .val (.int c0), .val (.int s2), .val (.int s3), .val (.int base), .val (.ref bz2), .unset, .unset, .unset, .unset, .unset, .unset, .unset, .unset] [(.int (base + (18 : Int32))), (.int (6 : Int32)), (.ref bz2)]))
  obtain ⟨T16, hz16, X16, ez16, W16, V16, st16⟩ := own_stI X14 hx hZ ez14 V14 (j := (6 : Int32)) (by decide)  (g := (mkF m 157 #[.val (.int p0), .val (.int p1), .val (.int p2), .val (.int p3), .val (.int p4), .val (.int p5), .val (.int d0), .val (.int d1), .val (.int d2), .val (.int c0), .val (.int c1), .val (.int c2), .val (.int ve), .val (.int c0), .val (.int s2), .val (.int s3), .val (.int base), .val (.ref bz2), .unset, .unset, .unset, .unset, .unset, .unset, .unset, .unset] [(.int (base + (18 : Int32))), (.int (6 : Int32)), (.ref bz2)])) rfl rfl (hb hby at_157)
  have N16 := Fr.snoc X16 N14 g_bz2
  have K_17 : Keep h0 hz16 [] := K_15.wr W16 (Or.inr sz_bz2)
  refine OGo.st st16 ?_
  show OGo p.tables e below _ (T16.setTop (mkF m 158 #[.val (.int p0), .val (.int p1), .val (.int p2), .val (.int p3), .val (.int p4), .val (.int p5), .val (.int d0), .val (.int d1), .val (.int d2), .val (.int c0), .val (.int c1), .val (.int c2), .val (.int ve), .val (.int c0), .val (.int s2), .val (.int s3), .val (.int base), .val (.ref bz2), .unset, .unset, .unset, .unset, .unset, .unset, .unset, .unset] []))
  refine OGo.st (fun _ k_ => XS.aload X16.here hx rfl (hb hby at_158) rfl rfl k_) ?_
  show OGo p.tables e below _ (T16.setTop (mkF m 160 #[.val (.int p0), .val (.int p1), .val (.int p2), .val (.int p3), .val (.int p4), .val (.int p5), .val (.int d0), .val (.int d1), .val (.int d2), .val (.int c0), .val (.int c1), .val (.int c2), .val (.int ve), .val (.int c0), .val (.int s2), .val (.int s3), .val (.int base), .val (.ref bz2), .unset, .unset, .unset, .unset, .unset, .unset, .unset, .unset] [(.ref bz2)]))
  refine OGo.st (fun _ k_ => XS.bipush X16.here hx rfl (hb hby at_160) k_) ?_
  show OGo p.tables e below _ (T16.setTop (mkF m 162 #[.val (.int p0), .val (.int p1), .val (.int p2), .val (.int p3), .val (.int p4), .val (.int p5), .val (.int d0), .val (.int d1), .val (.int d2), .val (.int c0), .val (.int c1), .val (.int c2), .val (.int ve), .val (.int c0), .val (.int s2), .val (.int s3), .val (.int base), .val (.ref bz2), .unset, .unset, .unset, .unset, .unset, .unset, .unset, .unset] [(.int (7 : Int32)), (.ref bz2)]))
  refine OGo.st (fun _ k_ => XS.iload X16.here hx rfl (hb hby at_162) rfl k_) ?_
  show OGo p.tables e below _ (T16.setTop (mkF m 164 #[.val (.int p0), .val (.int p1), .val (.int p2), .val (.int p3), .val (.int p4), .val (.int p5), .val (.int d0), .val (.int d1), .val (.int d2), .val (.int c0), .val (.int c1), .val (.int c2), .val (.int ve), .val (.int c0), .val (.int s2), .val (.int s3), .val (.int base), .val (.ref bz2), .unset, .unset, .unset, .unset, .unset, .unset, .unset, .unset] [(.int base), (.int (7 : Int32)), (.ref bz2)]))
  refine OGo.st (fun _ k_ => XS.bipush X16.here hx rfl (hb hby at_164) k_) ?_
  show OGo p.tables e below _ (T16.setTop (mkF m 166 #[.val (.int p0), .val (.int p1), .val (.int p2), .val (.int p3), .val (.int p4), .val (.int p5), .val (.int d0), .val (.int d1), .val (.int d2), .val (.int c0), .val (.int c1), .val (.int c2), .val (.int ve), .val (.int c0), .val (.int s2), .val (.int s3), .val (.int base), .val (.ref bz2), .unset, .unset, .unset, .unset, .unset, .unset, .unset, .unset] [(.int (21 : Int32)), (.int base), (.int (7 : Int32)), (.ref bz2)]))
  refine OGo.st (fun _ k_ => XS.iadd X16.here hx rfl (hb hby at_166) rfl k_) ?_
  show OGo p.tables e below _ (T16.setTop (mkF m 167 #[.val (.int p0), .val (.int p1), .val (.int p2), .val (.int p3), .val (.int p4), .val (.int p5), .val (.int d0), .val (.int d1), .val (.int d2), .val (.int c0), .val (.int c1), .val (.int c2), .val (.int ve), .val (.int c0), .val (.int s2), .val (.int s3), .val (.int base), .val (.ref bz2), .unset, .unset, .unset, .unset, .unset, .unset, .unset, .unset] [(.int (base + (21 : Int32))), (.int (7 : Int32)), (.ref bz2)]))
  obtain ⟨T18, hz18, X18, ez18, W18, V18, st18⟩ := own_stI X16 hx hZ ez16 V16 (j := (7 : Int32)) (by decide)  (g := (mkF m 167 #[.val (.int p0), .val (.int p1), .val (.int p2), .val (.int p3), .val (.int p4), .val (.int p5), .val (.int d0), .val (.int d1), .val (.int d2), .val (.int c0), .val (.int c1), .val (.int c2), .val (.int ve), .val (.int c0), .val (.int s2), .val (.int s3), .val (.int base), .val (.ref bz2), .unset, .unset, .unset, .unset, .unset, .unset, .unset, .unset] [(.int (base + (21 : Int32))), (.int (7 : Int32)), (.ref bz2)])) rfl rfl (hb hby at_167)
  have N18 := Fr.snoc X18 N16 g_bz2
  have K_19 : Keep h0 hz18 [] := K_17.wr W18 (Or.inr sz_bz2)
  refine OGo.st st18 ?_
  show OGo p.tables e below _ (T18.setTop (mkF m 168 #[.val (.int p0), .val (.int p1), .val (.int p2), .val (.int p3), .val (.int p4), .val (.int p5), .val (.int d0), .val (.int d1), .val (.int d2), .val (.int c0), .val (.int c1), .val (.int c2), .val (.int ve), .val (.int c0), .val (.int s2), .val (.int s3), .val (.int base), .val (.ref bz2), .unset, .unset, .unset, .unset, .unset, .unset, .unset, .unset] []))
  refine OGo.st (fun _ k_ => XS.aload X18.here hx rfl (hb hby at_168) rfl rfl k_) ?_
  show OGo p.tables e below _ (T18.setTop (mkF m 170 #[.val (.int p0), .val (.int p1), .val (.int p2), .val (.int p3), .val (.int p4), .val (.int p5), .val (.int d0), .val (.int d1), .val (.int d2), .val (.int c0), .val (.int c1), .val (.int c2), .val (.int ve), .val (.int c0), .val (.int s2), .val (.int s3), .val (.int base), .val (.ref bz2), .unset, .unset, .unset, .unset, .unset, .unset, .unset, .unset] [(.ref bz2)]))
  refine OGo.st (fun _ k_ => XS.bipush X18.here hx rfl (hb hby at_170) k_) ?_
  show OGo p.tables e below _ (T18.setTop (mkF m 172 #[.val (.int p0), .val (.int p1), .val (.int p2), .val (.int p3), .val (.int p4), .val (.int p5), .val (.int d0), .val (.int d1), .val (.int d2), .val (.int c0), .val (.int c1), .val (.int c2), .val (.int ve), .val (.int c0), .val (.int s2), .val (.int s3), .val (.int base), .val (.ref bz2), .unset, .unset, .unset, .unset, .unset, .unset, .unset, .unset] [(.int (8 : Int32)), (.ref bz2)]))
  refine OGo.st (fun _ k_ => XS.iload X18.here hx rfl (hb hby at_172) rfl k_) ?_
  show OGo p.tables e below _ (T18.setTop (mkF m 174 #[.val (.int p0), .val (.int p1), .val (.int p2), .val (.int p3), .val (.int p4), .val (.int p5), .val (.int d0), .val (.int d1), .val (.int d2), .val (.int c0), .val (.int c1), .val (.int c2), .val (.int ve), .val (.int c0), .val (.int s2), .val (.int s3), .val (.int base), .val (.ref bz2), .unset, .unset, .unset, .unset, .unset, .unset, .unset, .unset] [(.int base), (.int (8 : Int32)), (.ref bz2)]))
  refine OGo.st (fun _ k_ => XS.bipush X18.here hx rfl (hb hby at_174) k_) ?_
  show OGo p.tables e below _ (T18.setTop (mkF m 176 #[.val (.int p0), .val (.int p1), .val (.int p2), .val (.int p3), .val (.int p4), .val (.int p5), .val (.int d0), .val (.int d1), .val (.int d2), .val (.int c0), .val (.int c1), .val (.int c2), .val (.int ve), .val (.int c0), .val (.int s2), .val (.int s3), .val (.int base), .val (.ref bz2), .unset, .unset, .unset, .unset, .unset, .unset, .unset, .unset] [(.int (24 : Int32)), (.int base), (.int (8 : Int32)), (.ref bz2)]))
  refine OGo.st (fun _ k_ => XS.iadd X18.here hx rfl (hb hby at_176) rfl k_) ?_
  show OGo p.tables e below _ (T18.setTop (mkF m 177 #[.val (.int p0), .val (.int p1), .val (.int p2), .val (.int p3), .val (.int p4), .val (.int p5), .val (.int d0), .val (.int d1), .val (.int d2), .val (.int c0), .val (.int c1), .val (.int c2), .val (.int ve), .val (.int c0), .val (.int s2), .val (.int s3), .val (.int base), .val (.ref bz2), .unset, .unset, .unset, .unset, .unset, .unset, .unset, .unset] [(.int (base + (24 : Int32))), (.int (8 : Int32)), (.ref bz2)]))
  obtain ⟨T20, hz20, X20, ez20, W20, V20, st20⟩ := own_stI X18 hx hZ ez18 V18 (j := (8 : Int32)) (by decide)  (g := (mkF m 177 #[.val (.int p0), .val (.int p1), .val (.int p2), .val (.int p3), .val (.int p4), .val (.int p5), .val (.int d0), .val (.int d1), .val (.int d2), .val (.int c0), .val (.int c1), .val (.int c2), .val (.int ve), .val (.int c0), .val (.int s2), .val (.int s3), .val (.int base), .val (.ref bz2), .unset, .unset, .unset, .unset, .unset, .unset, .unset, .unset] [(.int (base + (24 : Int32))), (.int (8 : Int32)), (.ref bz2)])) rfl rfl (hb hby at_177)
  have N20 := Fr.snoc X20 N18 g_bz2
  have K_21 : Keep h0 hz20 [] := K_19.wr W20 (Or.inr sz_bz2)
  refine OGo.st st20 ?_
  have Af_22 : Arf Z hz20 bz2 kz2 .int (9 : Int32) (own_P (own_9 base)) := V20.congr (fun i hi => match i, hi with | 0, _ => rfl | 1, _ => rfl | 2, _ => rfl | 3, _ => rfl | 4, _ => rfl | 5, _ => rfl | 6, _ => rfl | 7, _ => rfl | 8, _ => rfl | (n_ + 9), q_ => absurd q_ (by show ¬ n_ + 9 < 9; omega))
  show OGo p.tables e below _ (T20.setTop (mkF m 178 #[.val (.int p0), .val (.int p1), .val (.int p2), .val (.int p3), .val (.int p4), .val (.int p5), .val (.int d0), .val (.int d1), .val (.int d2), .val (.int c0), .val (.int c1), .val (.int c2), .val (.int ve), .val (.int c0), .val (.int s2), .val (.int s3), .val (.int base), .val (.ref bz2), .unset, .unset, .unset, .unset, .unset, .unset, .unset, .unset] []))
  refine OGo.st (fun _ k_ => XS.iload X20.here hx rfl (hb hby at_178) rfl k_) ?_
  show OGo p.tables e below _ (T20.setTop (mkF m 180 #[.val (.int p0), .val (.int p1), .val (.int p2), .val (.int p3), .val (.int p4), .val (.int p5), .val (.int d0), .val (.int d1), .val (.int d2), .val (.int c0), .val (.int c1), .val (.int c2), .val (.int ve), .val (.int c0), .val (.int s2), .val (.int s3), .val (.int base), .val (.ref bz2), .unset, .unset, .unset, .unset, .unset, .unset, .unset, .unset] [(.int ve)]))
  by_cases hem : ve = 0
  · skip
    refine OGo.st (fun _ k_ => XS.ifYes X20.here hx rfl (pc0 := 180) (pc' := 208) rfl (hb hby at_180) rfl (XT.i0_eq_t hem) (by decide) (by decide) k_) ?_
    show OGo p.tables e below _ (T20.setTop (mkF m 208 #[.val (.int p0), .val (.int p1), .val (.int p2), .val (.int p3), .val (.int p4), .val (.int p5), .val (.int d0), .val (.int d1), .val (.int d2), .val (.int c0), .val (.int c1), .val (.int c2), .val (.int ve), .val (.int c0), .val (.int s2), .val (.int s3), .val (.int base), .val (.ref bz2), .unset, .unset, .unset, .unset, .unset, .unset, .unset, .unset] []))
    obtain ⟨T23, hz23, X23, ez23, Ez23, Az23, Dz23, -, st23⟩ := newO X20 hx hZ hown (hw _ (List.mem_of_getElem? (i := 2) rfl)) (hw _ (List.mem_of_getElem? (i := 3) rfl)) (hw _ (List.mem_of_getElem? (i := 4) rfl)) ez20 (g := (mkF m 208 #[.val (.int p0), .val (.int p1), .val (.int p2), .val (.int p3), .val (.int p4), .val (.int p5), .val (.int d0), .val (.int d1), .val (.int d2), .val (.int c0), .val (.int c1), .val (.int c2), .val (.int ve), .val (.int c0), .val (.int s2), .val (.int s3), .val (.int base), .val (.ref bz2), .unset, .unset, .unset, .unset, .unset, .unset, .unset, .unset] [])) rfl (hb hby at_208) (by decide) (by decide)
    obtain ⟨bz23, g23⟩ : ∃ z, z = hz20.size := ⟨_, rfl⟩
    rw [← g23] at Az23 Dz23 st23
    have lt_bz2_bz23 : @LT.lt Nat instLTNat bz2 bz23 := Nat.lt_of_lt_of_le Af_22.lt (Nat.le_of_eq g23.symm)
    have g_bz23 : n0 ≤ bz23 := Nat.le_trans (Nat.le_trans Z0 K_21.1) (Nat.le_of_eq g23.symm)
    have sz_bz23 : h0.size ≤ bz23 := Nat.le_trans K_21.1 (Nat.le_of_eq g23.symm)
    have Af_24 := Af_22.ext Ez23
    have K_25 : Keep h0 hz23 [] := K_21.ext Ez23
    have F_documents_23 : Fld Z hz23 bz23 "com/example/cari/cari/index/Positions" "documents" "[I" .null := Dz23 (Or.inr (hw _ (List.mem_of_getElem? (i := 12) rfl))) (ty := (.array .int)) (by decide)
    have F_starts_23 : Fld Z hz23 bz23 "com/example/cari/cari/index/Positions" "starts" "[I" .null := Dz23 (Or.inr (hw _ (List.mem_of_getElem? (i := 14) rfl))) (ty := (.array .int)) (by decide)
    have F_positions_23 : Fld Z hz23 bz23 "com/example/cari/cari/index/Positions" "positions" "[I" .null := Dz23 (Or.inr (hw _ (List.mem_of_getElem? (i := 16) rfl))) (ty := (.array .int)) (by decide)
    refine OGo.st st23 ?_
    show OGo p.tables e below _ (T23.setTop (mkF m 211 #[.val (.int p0), .val (.int p1), .val (.int p2), .val (.int p3), .val (.int p4), .val (.int p5), .val (.int d0), .val (.int d1), .val (.int d2), .val (.int c0), .val (.int c1), .val (.int c2), .val (.int ve), .val (.int c0), .val (.int s2), .val (.int s3), .val (.int base), .val (.ref bz2), .unset, .unset, .unset, .unset, .unset, .unset, .unset, .unset] [(.ref bz23)]))
    refine OGo.st (fun _ k_ => XS.dup X23.here hx rfl (hb hby at_211) rfl rfl k_) ?_
    show OGo p.tables e below _ (T23.setTop (mkF m 212 #[.val (.int p0), .val (.int p1), .val (.int p2), .val (.int p3), .val (.int p4), .val (.int p5), .val (.int d0), .val (.int d1), .val (.int d2), .val (.int c0), .val (.int c1), .val (.int c2), .val (.int ve), .val (.int c0), .val (.int s2), .val (.int s3), .val (.int base), .val (.ref bz2), .unset, .unset, .unset, .unset, .unset, .unset, .unset, .unset] [(.ref bz23), (.ref bz23)]))
    refine OGo.st (fun _ k_ => XS.iconst X23.here hx rfl (hb hby at_212) k_) ?_
    show OGo p.tables e below _ (T23.setTop (mkF m 213 #[.val (.int p0), .val (.int p1), .val (.int p2), .val (.int p3), .val (.int p4), .val (.int p5), .val (.int d0), .val (.int d1), .val (.int d2), .val (.int c0), .val (.int c1), .val (.int c2), .val (.int ve), .val (.int c0), .val (.int s2), .val (.int s3), .val (.int base), .val (.ref bz2), .unset, .unset, .unset, .unset, .unset, .unset, .unset, .unset] [(.int (3 : Int32)), (.ref bz23), (.ref bz23)]))
    obtain ⟨T26, hz26, kz26, X26, ez26, Ez26, Az26, st26⟩ := newP X23 hx hZ (hw _ (List.mem_of_getElem? (i := 1) rfl)) ez23 (g := (mkF m 213 #[.val (.int p0), .val (.int p1), .val (.int p2), .val (.int p3), .val (.int p4), .val (.int p5), .val (.int d0), .val (.int d1), .val (.int d2), .val (.int c0), .val (.int c1), .val (.int c2), .val (.int ve), .val (.int c0), .val (.int s2), .val (.int s3), .val (.int base), .val (.ref bz2), .unset, .unset, .unset, .unset, .unset, .unset, .unset, .unset] [(.int (3 : Int32)), (.ref bz23), (.ref bz23)])) rfl (hb hby at_213) rfl (by decide) (cap := 3) (by decide) (by decide) (by decide) (by decide)
    obtain ⟨bz26, g26⟩ : ∃ z, z = hz23.size := ⟨_, rfl⟩
    rw [← g26] at Az26 st26
    have lt_bz2_bz26 : @LT.lt Nat instLTNat bz2 bz26 := Nat.lt_of_lt_of_le Af_24.lt (Nat.le_of_eq g26.symm)
    have lt_bz23_bz26 : @LT.lt Nat instLTNat bz23 bz26 := Nat.lt_of_lt_of_le Az23.lt (Nat.le_of_eq g26.symm)
    have g_bz26 : n0 ≤ bz26 := Nat.le_trans (Nat.le_trans Z0 K_25.1) (Nat.le_of_eq g26.symm)
    have sz_bz26 : h0.size ≤ bz26 := Nat.le_trans K_25.1 (Nat.le_of_eq g26.symm)
    have Af_27 := Af_24.ext Ez26
    have Ex_28 := Az23.ext Ez26
    have F_29 := F_documents_23.ext Ez26
    have F_30 := F_starts_23.ext Ez26
    have F_31 := F_positions_23.ext Ez26
    have K_32 : Keep h0 hz26 [] := K_25.ext Ez26
    have V_bz26 : Arf Z hz26 bz26 kz26 .int (3 : Int32) (fun _ => (.int (0 : Int32))) := own_new Az26 (by decide)
    refine OGo.st st26 ?_
    show OGo p.tables e below _ (T26.setTop (mkF m 215 #[.val (.int p0), .val (.int p1), .val (.int p2), .val (.int p3), .val (.int p4), .val (.int p5), .val (.int d0), .val (.int d1), .val (.int d2), .val (.int c0), .val (.int c1), .val (.int c2), .val (.int ve), .val (.int c0), .val (.int s2), .val (.int s3), .val (.int base), .val (.ref bz2), .unset, .unset, .unset, .unset, .unset, .unset, .unset, .unset] [(.ref bz26), (.ref bz23), (.ref bz23)]))
    refine OGo.st (fun _ k_ => XS.dup X26.here hx rfl (hb hby at_215) rfl rfl k_) ?_
    show OGo p.tables e below _ (T26.setTop (mkF m 216 #[.val (.int p0), .val (.int p1), .val (.int p2), .val (.int p3), .val (.int p4), .val (.int p5), .val (.int d0), .val (.int d1), .val (.int d2), .val (.int c0), .val (.int c1), .val (.int c2), .val (.int ve), .val (.int c0), .val (.int s2), .val (.int s3), .val (.int base), .val (.ref bz2), .unset, .unset, .unset, .unset, .unset, .unset, .unset, .unset] [(.ref bz26), (.ref bz26), (.ref bz23), (.ref bz23)]))
    refine OGo.st (fun _ k_ => XS.iconst X26.here hx rfl (hb hby at_216) k_) ?_
    show OGo p.tables e below _ (T26.setTop (mkF m 217 #[.val (.int p0), .val (.int p1), .val (.int p2), .val (.int p3), .val (.int p4), .val (.int p5), .val (.int d0), .val (.int d1), .val (.int d2), .val (.int c0), .val (.int c1), .val (.int c2), .val (.int ve), .val (.int c0), .val (.int s2), .val (.int s3), .val (.int base), .val (.ref bz2), .unset, .unset, .unset, .unset, .unset, .unset, .unset, .unset] [(.int (0 : Int32)), (.ref bz26), (.ref bz26), (.ref bz23), (.ref bz23)]))
    refine OGo.st (fun _ k_ => XS.iload X26.here hx rfl (hb hby at_217) rfl k_) ?_
    show OGo p.tables e below _ (T26.setTop (mkF m 219 #[.val (.int p0), .val (.int p1), .val (.int p2), .val (.int p3), .val (.int p4), .val (.int p5), .val (.int d0), .val (.int d1), .val (.int d2), .val (.int c0), .val (.int c1), .val (.int c2), .val (.int ve), .val (.int c0), .val (.int s2), .val (.int s3), .val (.int base), .val (.ref bz2), .unset, .unset, .unset, .unset, .unset, .unset, .unset, .unset] [(.int d0), (.int (0 : Int32)), (.ref bz26), (.ref bz26), (.ref bz23), (.ref bz23)]))
    obtain ⟨T33, hz33, X33, ez33, W33, V33, st33⟩ := own_stI X26 hx hZ ez26 V_bz26 (j := (0 : Int32)) (by decide)  (g := (mkF m 219 #[.val (.int p0), .val (.int p1), .val (.int p2), .val (.int p3), .val (.int p4), .val (.int p5), .val (.int d0), .val (.int d1), .val (.int d2), .val (.int c0), .val (.int c1), .val (.int c2), .val (.int ve), .val (.int c0), .val (.int s2), .val (.int s3), .val (.int base), .val (.ref bz2), .unset, .unset, .unset, .unset, .unset, .unset, .unset, .unset] [(.int d0), (.int (0 : Int32)), (.ref bz26), (.ref bz26), (.ref bz23), (.ref bz23)])) rfl rfl (hb hby at_219)
    have Af_34 := Af_27.other W33 (Nat.ne_of_lt lt_bz2_bz26)
    have Ex_35 := Ex_28.wr W33
    have F_36 := F_29.other W33 (Or.inl (Nat.ne_of_lt lt_bz23_bz26))
    have F_37 := F_30.other W33 (Or.inl (Nat.ne_of_lt lt_bz23_bz26))
    have F_38 := F_31.other W33 (Or.inl (Nat.ne_of_lt lt_bz23_bz26))
    have N33 := Fr.snoc X33 N20 g_bz26
    have K_39 : Keep h0 hz33 [] := K_32.wr W33 (Or.inr sz_bz26)
    refine OGo.st st33 ?_
    show OGo p.tables e below _ (T33.setTop (mkF m 220 #[.val (.int p0), .val (.int p1), .val (.int p2), .val (.int p3), .val (.int p4), .val (.int p5), .val (.int d0), .val (.int d1), .val (.int d2), .val (.int c0), .val (.int c1), .val (.int c2), .val (.int ve), .val (.int c0), .val (.int s2), .val (.int s3), .val (.int base), .val (.ref bz2), .unset, .unset, .unset, .unset, .unset, .unset, .unset, .unset] [(.ref bz26), (.ref bz23), (.ref bz23)]))
    refine OGo.st (fun _ k_ => XS.dup X33.here hx rfl (hb hby at_220) rfl rfl k_) ?_
    show OGo p.tables e below _ (T33.setTop (mkF m 221 #[.val (.int p0), .val (.int p1), .val (.int p2), .val (.int p3), .val (.int p4), .val (.int p5), .val (.int d0), .val (.int d1), .val (.int d2), .val (.int c0), .val (.int c1), .val (.int c2), .val (.int ve), .val (.int c0), .val (.int s2), .val (.int s3), .val (.int base), .val (.ref bz2), .unset, .unset, .unset, .unset, .unset, .unset, .unset, .unset] [(.ref bz26), (.ref bz26), (.ref bz23), (.ref bz23)]))
    refine OGo.st (fun _ k_ => XS.iconst X33.here hx rfl (hb hby at_221) k_) ?_
    show OGo p.tables e below _ (T33.setTop (mkF m 222 #[.val (.int p0), .val (.int p1), .val (.int p2), .val (.int p3), .val (.int p4), .val (.int p5), .val (.int d0), .val (.int d1), .val (.int d2), .val (.int c0), .val (.int c1), .val (.int c2), .val (.int ve), .val (.int c0), .val (.int s2), .val (.int s3), .val (.int base), .val (.ref bz2), .unset, .unset, .unset, .unset, .unset, .unset, .unset, .unset] [(.int (1 : Int32)), (.ref bz26), (.ref bz26), (.ref bz23), (.ref bz23)]))
    refine OGo.st (fun _ k_ => XS.iload X33.here hx rfl (hb hby at_222) rfl k_) ?_
    show OGo p.tables e below _ (T33.setTop (mkF m 224 #[.val (.int p0), .val (.int p1), .val (.int p2), .val (.int p3), .val (.int p4), .val (.int p5), .val (.int d0), .val (.int d1), .val (.int d2), .val (.int c0), .val (.int c1), .val (.int c2), .val (.int ve), .val (.int c0), .val (.int s2), .val (.int s3), .val (.int base), .val (.ref bz2), .unset, .unset, .unset, .unset, .unset, .unset, .unset, .unset] [(.int d1), (.int (1 : Int32)), (.ref bz26), (.ref bz26), (.ref bz23), (.ref bz23)]))
    obtain ⟨T40, hz40, X40, ez40, W40, V40, st40⟩ := own_stI X33 hx hZ ez33 V33 (j := (1 : Int32)) (by decide)  (g := (mkF m 224 #[.val (.int p0), .val (.int p1), .val (.int p2), .val (.int p3), .val (.int p4), .val (.int p5), .val (.int d0), .val (.int d1), .val (.int d2), .val (.int c0), .val (.int c1), .val (.int c2), .val (.int ve), .val (.int c0), .val (.int s2), .val (.int s3), .val (.int base), .val (.ref bz2), .unset, .unset, .unset, .unset, .unset, .unset, .unset, .unset] [(.int d1), (.int (1 : Int32)), (.ref bz26), (.ref bz26), (.ref bz23), (.ref bz23)])) rfl rfl (hb hby at_224)
    have Af_41 := Af_34.other W40 (Nat.ne_of_lt lt_bz2_bz26)
    have Ex_42 := Ex_35.wr W40
    have F_43 := F_36.other W40 (Or.inl (Nat.ne_of_lt lt_bz23_bz26))
    have F_44 := F_37.other W40 (Or.inl (Nat.ne_of_lt lt_bz23_bz26))
    have F_45 := F_38.other W40 (Or.inl (Nat.ne_of_lt lt_bz23_bz26))
    have N40 := Fr.snoc X40 N33 g_bz26
    have K_46 : Keep h0 hz40 [] := K_39.wr W40 (Or.inr sz_bz26)
    refine OGo.st st40 ?_
    show OGo p.tables e below _ (T40.setTop (mkF m 225 #[.val (.int p0), .val (.int p1), .val (.int p2), .val (.int p3), .val (.int p4), .val (.int p5), .val (.int d0), .val (.int d1), .val (.int d2), .val (.int c0), .val (.int c1), .val (.int c2), .val (.int ve), .val (.int c0), .val (.int s2), .val (.int s3), .val (.int base), .val (.ref bz2), .unset, .unset, .unset, .unset, .unset, .unset, .unset, .unset] [(.ref bz26), (.ref bz23), (.ref bz23)]))
    refine OGo.st (fun _ k_ => XS.dup X40.here hx rfl (hb hby at_225) rfl rfl k_) ?_
    show OGo p.tables e below _ (T40.setTop (mkF m 226 #[.val (.int p0), .val (.int p1), .val (.int p2), .val (.int p3), .val (.int p4), .val (.int p5), .val (.int d0), .val (.int d1), .val (.int d2), .val (.int c0), .val (.int c1), .val (.int c2), .val (.int ve), .val (.int c0), .val (.int s2), .val (.int s3), .val (.int base), .val (.ref bz2), .unset, .unset, .unset, .unset, .unset, .unset, .unset, .unset] [(.ref bz26), (.ref bz26), (.ref bz23), (.ref bz23)]))
    refine OGo.st (fun _ k_ => XS.iconst X40.here hx rfl (hb hby at_226) k_) ?_
    show OGo p.tables e below _ (T40.setTop (mkF m 227 #[.val (.int p0), .val (.int p1), .val (.int p2), .val (.int p3), .val (.int p4), .val (.int p5), .val (.int d0), .val (.int d1), .val (.int d2), .val (.int c0), .val (.int c1), .val (.int c2), .val (.int ve), .val (.int c0), .val (.int s2), .val (.int s3), .val (.int base), .val (.ref bz2), .unset, .unset, .unset, .unset, .unset, .unset, .unset, .unset] [(.int (2 : Int32)), (.ref bz26), (.ref bz26), (.ref bz23), (.ref bz23)]))
    refine OGo.st (fun _ k_ => XS.iload X40.here hx rfl (hb hby at_227) rfl k_) ?_
    show OGo p.tables e below _ (T40.setTop (mkF m 229 #[.val (.int p0), .val (.int p1), .val (.int p2), .val (.int p3), .val (.int p4), .val (.int p5), .val (.int d0), .val (.int d1), .val (.int d2), .val (.int c0), .val (.int c1), .val (.int c2), .val (.int ve), .val (.int c0), .val (.int s2), .val (.int s3), .val (.int base), .val (.ref bz2), .unset, .unset, .unset, .unset, .unset, .unset, .unset, .unset] [(.int d2), (.int (2 : Int32)), (.ref bz26), (.ref bz26), (.ref bz23), (.ref bz23)]))
    obtain ⟨T47, hz47, X47, ez47, W47, V47, st47⟩ := own_stI X40 hx hZ ez40 V40 (j := (2 : Int32)) (by decide)  (g := (mkF m 229 #[.val (.int p0), .val (.int p1), .val (.int p2), .val (.int p3), .val (.int p4), .val (.int p5), .val (.int d0), .val (.int d1), .val (.int d2), .val (.int c0), .val (.int c1), .val (.int c2), .val (.int ve), .val (.int c0), .val (.int s2), .val (.int s3), .val (.int base), .val (.ref bz2), .unset, .unset, .unset, .unset, .unset, .unset, .unset, .unset] [(.int d2), (.int (2 : Int32)), (.ref bz26), (.ref bz26), (.ref bz23), (.ref bz23)])) rfl rfl (hb hby at_229)
    have Af_48 := Af_41.other W47 (Nat.ne_of_lt lt_bz2_bz26)
    have Ex_49 := Ex_42.wr W47
    have F_50 := F_43.other W47 (Or.inl (Nat.ne_of_lt lt_bz23_bz26))
    have F_51 := F_44.other W47 (Or.inl (Nat.ne_of_lt lt_bz23_bz26))
    have F_52 := F_45.other W47 (Or.inl (Nat.ne_of_lt lt_bz23_bz26))
    have N47 := Fr.snoc X47 N40 g_bz26
    have K_53 : Keep h0 hz47 [] := K_46.wr W47 (Or.inr sz_bz26)
    refine OGo.st st47 ?_
    have Af_54 : Arf Z hz47 bz26 kz26 .int (3 : Int32) (own_P (own_3 d0 d1 d2)) := V47.congr (fun i hi => match i, hi with | 0, _ => rfl | 1, _ => rfl | 2, _ => rfl | (n_ + 3), q_ => absurd q_ (by show ¬ n_ + 3 < 3; omega))
    show OGo p.tables e below _ (T47.setTop (mkF m 230 #[.val (.int p0), .val (.int p1), .val (.int p2), .val (.int p3), .val (.int p4), .val (.int p5), .val (.int d0), .val (.int d1), .val (.int d2), .val (.int c0), .val (.int c1), .val (.int c2), .val (.int ve), .val (.int c0), .val (.int s2), .val (.int s3), .val (.int base), .val (.ref bz2), .unset, .unset, .unset, .unset, .unset, .unset, .unset, .unset] [(.ref bz26), (.ref bz23), (.ref bz23)]))
    refine OGo.st (fun _ k_ => XS.iconst X47.here hx rfl (hb hby at_230) k_) ?_
    show OGo p.tables e below _ (T47.setTop (mkF m 231 #[.val (.int p0), .val (.int p1), .val (.int p2), .val (.int p3), .val (.int p4), .val (.int p5), .val (.int d0), .val (.int d1), .val (.int d2), .val (.int c0), .val (.int c1), .val (.int c2), .val (.int ve), .val (.int c0), .val (.int s2), .val (.int s3), .val (.int base), .val (.ref bz2), .unset, .unset, .unset, .unset, .unset, .unset, .unset, .unset] [(.int (4 : Int32)), (.ref bz26), (.ref bz23), (.ref bz23)]))
    obtain ⟨T55, hz55, kz55, X55, ez55, Ez55, Az55, st55⟩ := newP X47 hx hZ (hw _ (List.mem_of_getElem? (i := 1) rfl)) ez47 (g := (mkF m 231 #[.val (.int p0), .val (.int p1), .val (.int p2), .val (.int p3), .val (.int p4), .val (.int p5), .val (.int d0), .val (.int d1), .val (.int d2), .val (.int c0), .val (.int c1), .val (.int c2), .val (.int ve), .val (.int c0), .val (.int s2), .val (.int s3), .val (.int base), .val (.ref bz2), .unset, .unset, .unset, .unset, .unset, .unset, .unset, .unset] [(.int (4 : Int32)), (.ref bz26), (.ref bz23), (.ref bz23)])) rfl (hb hby at_231) rfl (by decide) (cap := 4) (by decide) (by decide) (by decide) (by decide)
    obtain ⟨bz55, g55⟩ : ∃ z, z = hz47.size := ⟨_, rfl⟩
    rw [← g55] at Az55 st55
    have lt_bz2_bz55 : @LT.lt Nat instLTNat bz2 bz55 := Nat.lt_of_lt_of_le Af_48.lt (Nat.le_of_eq g55.symm)
    have lt_bz23_bz55 : @LT.lt Nat instLTNat bz23 bz55 := Nat.lt_of_lt_of_le Ex_49.lt (Nat.le_of_eq g55.symm)
    have lt_bz26_bz55 : @LT.lt Nat instLTNat bz26 bz55 := Nat.lt_of_lt_of_le Af_54.lt (Nat.le_of_eq g55.symm)
    have g_bz55 : n0 ≤ bz55 := Nat.le_trans (Nat.le_trans Z0 K_53.1) (Nat.le_of_eq g55.symm)
    have sz_bz55 : h0.size ≤ bz55 := Nat.le_trans K_53.1 (Nat.le_of_eq g55.symm)
    have Af_56 := Af_48.ext Ez55
    have Ex_57 := Ex_49.ext Ez55
    have F_58 := F_50.ext Ez55
    have F_59 := F_51.ext Ez55
    have F_60 := F_52.ext Ez55
    have Af_61 := Af_54.ext Ez55
    have K_62 : Keep h0 hz55 [] := K_53.ext Ez55
    have V_bz55 : Arf Z hz55 bz55 kz55 .int (4 : Int32) (fun _ => (.int (0 : Int32))) := own_new Az55 (by decide)
    refine OGo.st st55 ?_
    show OGo p.tables e below _ (T55.setTop (mkF m 233 #[.val (.int p0), .val (.int p1), .val (.int p2), .val (.int p3), .val (.int p4), .val (.int p5), .val (.int d0), .val (.int d1), .val (.int d2), .val (.int c0), .val (.int c1), .val (.int c2), .val (.int ve), .val (.int c0), .val (.int s2), .val (.int s3), .val (.int base), .val (.ref bz2), .unset, .unset, .unset, .unset, .unset, .unset, .unset, .unset] [(.ref bz55), (.ref bz26), (.ref bz23), (.ref bz23)]))
    refine OGo.st (fun _ k_ => XS.dup X55.here hx rfl (hb hby at_233) rfl rfl k_) ?_
    show OGo p.tables e below _ (T55.setTop (mkF m 234 #[.val (.int p0), .val (.int p1), .val (.int p2), .val (.int p3), .val (.int p4), .val (.int p5), .val (.int d0), .val (.int d1), .val (.int d2), .val (.int c0), .val (.int c1), .val (.int c2), .val (.int ve), .val (.int c0), .val (.int s2), .val (.int s3), .val (.int base), .val (.ref bz2), .unset, .unset, .unset, .unset, .unset, .unset, .unset, .unset] [(.ref bz55), (.ref bz55), (.ref bz26), (.ref bz23), (.ref bz23)]))
    refine OGo.st (fun _ k_ => XS.iconst X55.here hx rfl (hb hby at_234) k_) ?_
    show OGo p.tables e below _ (T55.setTop (mkF m 235 #[.val (.int p0), .val (.int p1), .val (.int p2), .val (.int p3), .val (.int p4), .val (.int p5), .val (.int d0), .val (.int d1), .val (.int d2), .val (.int c0), .val (.int c1), .val (.int c2), .val (.int ve), .val (.int c0), .val (.int s2), .val (.int s3), .val (.int base), .val (.ref bz2), .unset, .unset, .unset, .unset, .unset, .unset, .unset, .unset] [(.int (0 : Int32)), (.ref bz55), (.ref bz55), (.ref bz26), (.ref bz23), (.ref bz23)]))
    refine OGo.st (fun _ k_ => XS.iconst X55.here hx rfl (hb hby at_235) k_) ?_
    show OGo p.tables e below _ (T55.setTop (mkF m 236 #[.val (.int p0), .val (.int p1), .val (.int p2), .val (.int p3), .val (.int p4), .val (.int p5), .val (.int d0), .val (.int d1), .val (.int d2), .val (.int c0), .val (.int c1), .val (.int c2), .val (.int ve), .val (.int c0), .val (.int s2), .val (.int s3), .val (.int base), .val (.ref bz2), .unset, .unset, .unset, .unset, .unset, .unset, .unset, .unset] [(.int (0 : Int32)), (.int (0 : Int32)), (.ref bz55), (.ref bz55), (.ref bz26), (.ref bz23), (.ref bz23)]))
    obtain ⟨T63, hz63, X63, ez63, W63, V63, st63⟩ := own_stI X55 hx hZ ez55 V_bz55 (j := (0 : Int32)) (by decide)  (g := (mkF m 236 #[.val (.int p0), .val (.int p1), .val (.int p2), .val (.int p3), .val (.int p4), .val (.int p5), .val (.int d0), .val (.int d1), .val (.int d2), .val (.int c0), .val (.int c1), .val (.int c2), .val (.int ve), .val (.int c0), .val (.int s2), .val (.int s3), .val (.int base), .val (.ref bz2), .unset, .unset, .unset, .unset, .unset, .unset, .unset, .unset] [(.int (0 : Int32)), (.int (0 : Int32)), (.ref bz55), (.ref bz55), (.ref bz26), (.ref bz23), (.ref bz23)])) rfl rfl (hb hby at_236)
    have Af_64 := Af_56.other W63 (Nat.ne_of_lt lt_bz2_bz55)
    have Ex_65 := Ex_57.wr W63
    have F_66 := F_58.other W63 (Or.inl (Nat.ne_of_lt lt_bz23_bz55))
    have F_67 := F_59.other W63 (Or.inl (Nat.ne_of_lt lt_bz23_bz55))
    have F_68 := F_60.other W63 (Or.inl (Nat.ne_of_lt lt_bz23_bz55))
    have Af_69 := Af_61.other W63 (Nat.ne_of_lt lt_bz26_bz55)
    have N63 := Fr.snoc X63 N47 g_bz55
    have K_70 : Keep h0 hz63 [] := K_62.wr W63 (Or.inr sz_bz55)
    refine OGo.st st63 ?_
    show OGo p.tables e below _ (T63.setTop (mkF m 237 #[.val (.int p0), .val (.int p1), .val (.int p2), .val (.int p3), .val (.int p4), .val (.int p5), .val (.int d0), .val (.int d1), .val (.int d2), .val (.int c0), .val (.int c1), .val (.int c2), .val (.int ve), .val (.int c0), .val (.int s2), .val (.int s3), .val (.int base), .val (.ref bz2), .unset, .unset, .unset, .unset, .unset, .unset, .unset, .unset] [(.ref bz55), (.ref bz26), (.ref bz23), (.ref bz23)]))
    refine OGo.st (fun _ k_ => XS.dup X63.here hx rfl (hb hby at_237) rfl rfl k_) ?_
    show OGo p.tables e below _ (T63.setTop (mkF m 238 #[.val (.int p0), .val (.int p1), .val (.int p2), .val (.int p3), .val (.int p4), .val (.int p5), .val (.int d0), .val (.int d1), .val (.int d2), .val (.int c0), .val (.int c1), .val (.int c2), .val (.int ve), .val (.int c0), .val (.int s2), .val (.int s3), .val (.int base), .val (.ref bz2), .unset, .unset, .unset, .unset, .unset, .unset, .unset, .unset] [(.ref bz55), (.ref bz55), (.ref bz26), (.ref bz23), (.ref bz23)]))
    refine OGo.st (fun _ k_ => XS.iconst X63.here hx rfl (hb hby at_238) k_) ?_
    show OGo p.tables e below _ (T63.setTop (mkF m 239 #[.val (.int p0), .val (.int p1), .val (.int p2), .val (.int p3), .val (.int p4), .val (.int p5), .val (.int d0), .val (.int d1), .val (.int d2), .val (.int c0), .val (.int c1), .val (.int c2), .val (.int ve), .val (.int c0), .val (.int s2), .val (.int s3), .val (.int base), .val (.ref bz2), .unset, .unset, .unset, .unset, .unset, .unset, .unset, .unset] [(.int (1 : Int32)), (.ref bz55), (.ref bz55), (.ref bz26), (.ref bz23), (.ref bz23)]))
    refine OGo.st (fun _ k_ => XS.iload X63.here hx rfl (hb hby at_239) rfl k_) ?_
    show OGo p.tables e below _ (T63.setTop (mkF m 241 #[.val (.int p0), .val (.int p1), .val (.int p2), .val (.int p3), .val (.int p4), .val (.int p5), .val (.int d0), .val (.int d1), .val (.int d2), .val (.int c0), .val (.int c1), .val (.int c2), .val (.int ve), .val (.int c0), .val (.int s2), .val (.int s3), .val (.int base), .val (.ref bz2), .unset, .unset, .unset, .unset, .unset, .unset, .unset, .unset] [(.int c0), (.int (1 : Int32)), (.ref bz55), (.ref bz55), (.ref bz26), (.ref bz23), (.ref bz23)]))
    obtain ⟨T71, hz71, X71, ez71, W71, V71, st71⟩ := own_stI X63 hx hZ ez63 V63 (j := (1 : Int32)) (by decide)  (g := (mkF m 241 #[.val (.int p0), .val (.int p1), .val (.int p2), .val (.int p3), .val (.int p4), .val (.int p5), .val (.int d0), .val (.int d1), .val (.int d2), .val (.int c0), .val (.int c1), .val (.int c2), .val (.int ve), .val (.int c0), .val (.int s2), .val (.int s3), .val (.int base), .val (.ref bz2), .unset, .unset, .unset, .unset, .unset, .unset, .unset, .unset] [(.int c0), (.int (1 : Int32)), (.ref bz55), (.ref bz55), (.ref bz26), (.ref bz23), (.ref bz23)])) rfl rfl (hb hby at_241)
    have Af_72 := Af_64.other W71 (Nat.ne_of_lt lt_bz2_bz55)
    have Ex_73 := Ex_65.wr W71
    have F_74 := F_66.other W71 (Or.inl (Nat.ne_of_lt lt_bz23_bz55))
    have F_75 := F_67.other W71 (Or.inl (Nat.ne_of_lt lt_bz23_bz55))
    have F_76 := F_68.other W71 (Or.inl (Nat.ne_of_lt lt_bz23_bz55))
    have Af_77 := Af_69.other W71 (Nat.ne_of_lt lt_bz26_bz55)
    have N71 := Fr.snoc X71 N63 g_bz55
    have K_78 : Keep h0 hz71 [] := K_70.wr W71 (Or.inr sz_bz55)
    refine OGo.st st71 ?_
    show OGo p.tables e below _ (T71.setTop (mkF m 242 #[.val (.int p0), .val (.int p1), .val (.int p2), .val (.int p3), .val (.int p4), .val (.int p5), .val (.int d0), .val (.int d1), .val (.int d2), .val (.int c0), .val (.int c1), .val (.int c2), .val (.int ve), .val (.int c0), .val (.int s2), .val (.int s3), .val (.int base), .val (.ref bz2), .unset, .unset, .unset, .unset, .unset, .unset, .unset, .unset] [(.ref bz55), (.ref bz26), (.ref bz23), (.ref bz23)]))
    refine OGo.st (fun _ k_ => XS.dup X71.here hx rfl (hb hby at_242) rfl rfl k_) ?_
    show OGo p.tables e below _ (T71.setTop (mkF m 243 #[.val (.int p0), .val (.int p1), .val (.int p2), .val (.int p3), .val (.int p4), .val (.int p5), .val (.int d0), .val (.int d1), .val (.int d2), .val (.int c0), .val (.int c1), .val (.int c2), .val (.int ve), .val (.int c0), .val (.int s2), .val (.int s3), .val (.int base), .val (.ref bz2), .unset, .unset, .unset, .unset, .unset, .unset, .unset, .unset] [(.ref bz55), (.ref bz55), (.ref bz26), (.ref bz23), (.ref bz23)]))
    refine OGo.st (fun _ k_ => XS.iconst X71.here hx rfl (hb hby at_243) k_) ?_
    show OGo p.tables e below _ (T71.setTop (mkF m 244 #[.val (.int p0), .val (.int p1), .val (.int p2), .val (.int p3), .val (.int p4), .val (.int p5), .val (.int d0), .val (.int d1), .val (.int d2), .val (.int c0), .val (.int c1), .val (.int c2), .val (.int ve), .val (.int c0), .val (.int s2), .val (.int s3), .val (.int base), .val (.ref bz2), .unset, .unset, .unset, .unset, .unset, .unset, .unset, .unset] [(.int (2 : Int32)), (.ref bz55), (.ref bz55), (.ref bz26), (.ref bz23), (.ref bz23)]))
    refine OGo.st (fun _ k_ => XS.iload X71.here hx rfl (hb hby at_244) rfl k_) ?_
    show OGo p.tables e below _ (T71.setTop (mkF m 246 #[.val (.int p0), .val (.int p1), .val (.int p2), .val (.int p3), .val (.int p4), .val (.int p5), .val (.int d0), .val (.int d1), .val (.int d2), .val (.int c0), .val (.int c1), .val (.int c2), .val (.int ve), .val (.int c0), .val (.int s2), .val (.int s3), .val (.int base), .val (.ref bz2), .unset, .unset, .unset, .unset, .unset, .unset, .unset, .unset] [(.int s2), (.int (2 : Int32)), (.ref bz55), (.ref bz55), (.ref bz26), (.ref bz23), (.ref bz23)]))
    obtain ⟨T79, hz79, X79, ez79, W79, V79, st79⟩ := own_stI X71 hx hZ ez71 V71 (j := (2 : Int32)) (by decide)  (g := (mkF m 246 #[.val (.int p0), .val (.int p1), .val (.int p2), .val (.int p3), .val (.int p4), .val (.int p5), .val (.int d0), .val (.int d1), .val (.int d2), .val (.int c0), .val (.int c1), .val (.int c2), .val (.int ve), .val (.int c0), .val (.int s2), .val (.int s3), .val (.int base), .val (.ref bz2), .unset, .unset, .unset, .unset, .unset, .unset, .unset, .unset] [(.int s2), (.int (2 : Int32)), (.ref bz55), (.ref bz55), (.ref bz26), (.ref bz23), (.ref bz23)])) rfl rfl (hb hby at_246)
    have Af_80 := Af_72.other W79 (Nat.ne_of_lt lt_bz2_bz55)
    have Ex_81 := Ex_73.wr W79
    have F_82 := F_74.other W79 (Or.inl (Nat.ne_of_lt lt_bz23_bz55))
    have F_83 := F_75.other W79 (Or.inl (Nat.ne_of_lt lt_bz23_bz55))
    have F_84 := F_76.other W79 (Or.inl (Nat.ne_of_lt lt_bz23_bz55))
    have Af_85 := Af_77.other W79 (Nat.ne_of_lt lt_bz26_bz55)
    have N79 := Fr.snoc X79 N71 g_bz55
    have K_86 : Keep h0 hz79 [] := K_78.wr W79 (Or.inr sz_bz55)
    refine OGo.st st79 ?_
    show OGo p.tables e below _ (T79.setTop (mkF m 247 #[.val (.int p0), .val (.int p1), .val (.int p2), .val (.int p3), .val (.int p4), .val (.int p5), .val (.int d0), .val (.int d1), .val (.int d2), .val (.int c0), .val (.int c1), .val (.int c2), .val (.int ve), .val (.int c0), .val (.int s2), .val (.int s3), .val (.int base), .val (.ref bz2), .unset, .unset, .unset, .unset, .unset, .unset, .unset, .unset] [(.ref bz55), (.ref bz26), (.ref bz23), (.ref bz23)]))
    refine OGo.st (fun _ k_ => XS.dup X79.here hx rfl (hb hby at_247) rfl rfl k_) ?_
    show OGo p.tables e below _ (T79.setTop (mkF m 248 #[.val (.int p0), .val (.int p1), .val (.int p2), .val (.int p3), .val (.int p4), .val (.int p5), .val (.int d0), .val (.int d1), .val (.int d2), .val (.int c0), .val (.int c1), .val (.int c2), .val (.int ve), .val (.int c0), .val (.int s2), .val (.int s3), .val (.int base), .val (.ref bz2), .unset, .unset, .unset, .unset, .unset, .unset, .unset, .unset] [(.ref bz55), (.ref bz55), (.ref bz26), (.ref bz23), (.ref bz23)]))
    refine OGo.st (fun _ k_ => XS.iconst X79.here hx rfl (hb hby at_248) k_) ?_
    show OGo p.tables e below _ (T79.setTop (mkF m 249 #[.val (.int p0), .val (.int p1), .val (.int p2), .val (.int p3), .val (.int p4), .val (.int p5), .val (.int d0), .val (.int d1), .val (.int d2), .val (.int c0), .val (.int c1), .val (.int c2), .val (.int ve), .val (.int c0), .val (.int s2), .val (.int s3), .val (.int base), .val (.ref bz2), .unset, .unset, .unset, .unset, .unset, .unset, .unset, .unset] [(.int (3 : Int32)), (.ref bz55), (.ref bz55), (.ref bz26), (.ref bz23), (.ref bz23)]))
    refine OGo.st (fun _ k_ => XS.iload X79.here hx rfl (hb hby at_249) rfl k_) ?_
    show OGo p.tables e below _ (T79.setTop (mkF m 251 #[.val (.int p0), .val (.int p1), .val (.int p2), .val (.int p3), .val (.int p4), .val (.int p5), .val (.int d0), .val (.int d1), .val (.int d2), .val (.int c0), .val (.int c1), .val (.int c2), .val (.int ve), .val (.int c0), .val (.int s2), .val (.int s3), .val (.int base), .val (.ref bz2), .unset, .unset, .unset, .unset, .unset, .unset, .unset, .unset] [(.int s3), (.int (3 : Int32)), (.ref bz55), (.ref bz55), (.ref bz26), (.ref bz23), (.ref bz23)]))
    obtain ⟨T87, hz87, X87, ez87, W87, V87, st87⟩ := own_stI X79 hx hZ ez79 V79 (j := (3 : Int32)) (by decide)  (g := (mkF m 251 #[.val (.int p0), .val (.int p1), .val (.int p2), .val (.int p3), .val (.int p4), .val (.int p5), .val (.int d0), .val (.int d1), .val (.int d2), .val (.int c0), .val (.int c1), .val (.int c2), .val (.int ve), .val (.int c0), .val (.int s2), .val (.int s3), .val (.int base), .val (.ref bz2), .unset, .unset, .unset, .unset, .unset, .unset, .unset, .unset] [(.int s3), (.int (3 : Int32)), (.ref bz55), (.ref bz55), (.ref bz26), (.ref bz23), (.ref bz23)])) rfl rfl (hb hby at_251)
    have Af_88 := Af_80.other W87 (Nat.ne_of_lt lt_bz2_bz55)
    have Ex_89 := Ex_81.wr W87
    have F_90 := F_82.other W87 (Or.inl (Nat.ne_of_lt lt_bz23_bz55))
    have F_91 := F_83.other W87 (Or.inl (Nat.ne_of_lt lt_bz23_bz55))
    have F_92 := F_84.other W87 (Or.inl (Nat.ne_of_lt lt_bz23_bz55))
    have Af_93 := Af_85.other W87 (Nat.ne_of_lt lt_bz26_bz55)
    have N87 := Fr.snoc X87 N79 g_bz55
    have K_94 : Keep h0 hz87 [] := K_86.wr W87 (Or.inr sz_bz55)
    refine OGo.st st87 ?_
    have Af_95 : Arf Z hz87 bz55 kz55 .int (4 : Int32) (own_P (own_4 0 c0 s2 s3)) := V87.congr (fun i hi => match i, hi with | 0, _ => rfl | 1, _ => rfl | 2, _ => rfl | 3, _ => rfl | (n_ + 4), q_ => absurd q_ (by show ¬ n_ + 4 < 4; omega))
    show OGo p.tables e below _ (T87.setTop (mkF m 252 #[.val (.int p0), .val (.int p1), .val (.int p2), .val (.int p3), .val (.int p4), .val (.int p5), .val (.int d0), .val (.int d1), .val (.int d2), .val (.int c0), .val (.int c1), .val (.int c2), .val (.int ve), .val (.int c0), .val (.int s2), .val (.int s3), .val (.int base), .val (.ref bz2), .unset, .unset, .unset, .unset, .unset, .unset, .unset, .unset] [(.ref bz55), (.ref bz26), (.ref bz23), (.ref bz23)]))
    refine OGo.st (fun _ k_ => XS.aload X87.here hx rfl (hb hby at_252) rfl rfl k_) ?_
    show OGo p.tables e below _ (T87.setTop (mkF m 254 #[.val (.int p0), .val (.int p1), .val (.int p2), .val (.int p3), .val (.int p4), .val (.int p5), .val (.int d0), .val (.int d1), .val (.int d2), .val (.int c0), .val (.int c1), .val (.int c2), .val (.int ve), .val (.int c0), .val (.int s2), .val (.int s3), .val (.int base), .val (.ref bz2), .unset, .unset, .unset, .unset, .unset, .unset, .unset, .unset] [(.ref bz2), (.ref bz55), (.ref bz26), (.ref bz23), (.ref bz23)]))
    obtain ⟨_, _, ⟨T96, Lz96, kz96, nz96⟩, -, X96, ⟨Lc96, hQ96, lz96, yz96, zz96⟩, st96⟩ := X87.specialBack hx (y := (⟨"com/example/cari/cari/index/Positions", "<init>", "([I[I[I)V"⟩ : MethodName)) rfl hown (mvT hZ (hw _ (List.mem_of_getElem? (i := 5) rfl))) (mvT hZ (hw _ (List.mem_of_getElem? (i := 6) rfl))) (mvT hZ (hw _ (List.mem_of_getElem? (i := 7) rfl))) (by decide) (backOf (W := 1) (rm9 l Z a0 hw [] bz23 bz26 bz55 bz2 hz87 n0 (Nat.le_trans Z0 K_94.1) Ex_89 F_90 F_91 F_92 g_bz23) hZ (hw _ (List.mem_of_getElem? (i := 7) rfl)) (hw _ (List.mem_of_getElem? (i := 4) rfl)) (by decide) (by decide)) (g := (mkF m 254 #[.val (.int p0), .val (.int p1), .val (.int p2), .val (.int p3), .val (.int p4), .val (.int p5), .val (.int d0), .val (.int d1), .val (.int d2), .val (.int c0), .val (.int c1), .val (.int c2), .val (.int ve), .val (.int c0), .val (.int s2), .val (.int s3), .val (.int base), .val (.ref bz2), .unset, .unset, .unset, .unset, .unset, .unset, .unset, .unset] [(.ref bz2), (.ref bz55), (.ref bz26), (.ref bz23), (.ref bz23)])) rfl (by rw [hml]; rfl) (Steps.refl _) (a := bz23) (argsL := [(.ref bz26), (.ref bz55), (.ref bz2)]) (rest := [(.ref bz23)]) (lenOf own_pd5 rfl) rfl (by show 2 * 0 + _ ≤ _; exact Nat.le_of_eq rfl) (hb hby at_254) (fun _ _ => ⟨rfl, ez87, (by decide : 4 + 0 ≤ _), (by decide : 19 + 0 ≤ _)⟩)
    dsimp only [Pt.U, Pt.locs, Pt.cells, Pt.slots] at X96 lz96 yz96 zz96 st96 hQ96
    have X96 := own_reb X96 lz96 yz96 zz96
    have X96 : Stand p l e room_1 s m #[(.int p0), (.int p1), (.int p2), (.int p3), (.int p4), (.int p5)] below meth c T96 _ 4 19 := X96
    obtain ⟨hvq96, Nq96, Kq96, qz96_0, qz96_1, qz96_2⟩ := hQ96
    rw [hvq96] at st96
    have N96 := Fr.app N87 Nq96
    have Af_97 := Af_88.keep Kq96 (ninS (Nat.ne_of_lt lt_bz2_bz23) nin0)
    have Ex_98 := Ex_89.keep Kq96
    have Af_99 := Af_93.keep Kq96 (ninS (Ne.symm (Nat.ne_of_lt lt_bz23_bz26)) nin0)
    have Af_100 := Af_95.keep Kq96 (ninS (Ne.symm (Nat.ne_of_lt lt_bz23_bz55)) nin0)
    have K_101 : Keep h0 T96.heap [] := K_94.trans Kq96 (allS (Or.inr sz_bz23) all0)
    refine OGo.tr st96 ?_
    show OGo p.tables e below _ (T96.setTop (mkF m 257 #[.val (.int p0), .val (.int p1), .val (.int p2), .val (.int p3), .val (.int p4), .val (.int p5), .val (.int d0), .val (.int d1), .val (.int d2), .val (.int c0), .val (.int c1), .val (.int c2), .val (.int ve), .val (.int c0), .val (.int s2), .val (.int s3), .val (.int base), .val (.ref bz2), .unset, .unset, .unset, .unset, .unset, .unset, .unset, .unset] [(.ref bz23)]))
    refine OGo.st (fun _ k_ => XS.astore X96.here hx rfl (hb hby at_257) rfl rfl (l' := #[.val (.int p0), .val (.int p1), .val (.int p2), .val (.int p3), .val (.int p4), .val (.int p5), .val (.int d0), .val (.int d1), .val (.int d2), .val (.int c0), .val (.int c1), .val (.int c2), .val (.int ve), .val (.int c0), .val (.int s2), .val (.int s3), .val (.int base), .val (.ref bz2), .val (.ref bz23), .unset, .unset, .unset, .unset, .unset, .unset, .unset]) rfl k_) ?_
    show OGo p.tables e below _ (T96.setTop (mkF m 259 #[.val (.int p0), .val (.int p1), .val (.int p2), .val (.int p3), .val (.int p4), .val (.int p5), .val (.int d0), .val (.int d1), .val (.int d2), .val (.int c0), .val (.int c1), .val (.int c2), .val (.int ve), .val (.int c0), .val (.int s2), .val (.int s3), .val (.int base), .val (.ref bz2), .val (.ref bz23), .unset, .unset, .unset, .unset, .unset, .unset, .unset] []))
    refine OGo.st (fun _ k_ => XS.iloadN X96.here hx rfl (hb hby at_259) rfl k_) ?_
    show OGo p.tables e below _ (T96.setTop (mkF m 260 #[.val (.int p0), .val (.int p1), .val (.int p2), .val (.int p3), .val (.int p4), .val (.int p5), .val (.int d0), .val (.int d1), .val (.int d2), .val (.int c0), .val (.int c1), .val (.int c2), .val (.int ve), .val (.int c0), .val (.int s2), .val (.int s3), .val (.int base), .val (.ref bz2), .val (.ref bz23), .unset, .unset, .unset, .unset, .unset, .unset, .unset] [(.int p2)]))
    refine OGo.st (fun _ k_ => XS.bipush X96.here hx rfl (hb hby at_260) k_) ?_
    show OGo p.tables e below _ (T96.setTop (mkF m 262 #[.val (.int p0), .val (.int p1), .val (.int p2), .val (.int p3), .val (.int p4), .val (.int p5), .val (.int d0), .val (.int d1), .val (.int d2), .val (.int c0), .val (.int c1), .val (.int c2), .val (.int ve), .val (.int c0), .val (.int s2), .val (.int s3), .val (.int base), .val (.ref bz2), .val (.ref bz23), .unset, .unset, .unset, .unset, .unset, .unset, .unset] [(.int (7 : Int32)), (.int p2)]))
    refine OGo.st (fun _ k_ => XS.iand X96.here hx rfl (hb hby at_262) rfl k_) ?_
    show OGo p.tables e below _ (T96.setTop (mkF m 263 #[.val (.int p0), .val (.int p1), .val (.int p2), .val (.int p3), .val (.int p4), .val (.int p5), .val (.int d0), .val (.int d1), .val (.int d2), .val (.int c0), .val (.int c1), .val (.int c2), .val (.int ve), .val (.int c0), .val (.int s2), .val (.int s3), .val (.int base), .val (.ref bz2), .val (.ref bz23), .unset, .unset, .unset, .unset, .unset, .unset, .unset] [(.int (p2 &&& (7 : Int32)))]))
    refine OGo.st (fun _ k_ => XS.istore X96.here hx rfl (hb hby at_263) rfl (l' := #[.val (.int p0), .val (.int p1), .val (.int p2), .val (.int p3), .val (.int p4), .val (.int p5), .val (.int d0), .val (.int d1), .val (.int d2), .val (.int c0), .val (.int c1), .val (.int c2), .val (.int ve), .val (.int c0), .val (.int s2), .val (.int s3), .val (.int base), .val (.ref bz2), .val (.ref bz23), .val (.int (p2 &&& (7 : Int32))), .unset, .unset, .unset, .unset, .unset, .unset]) rfl k_) ?_
    obtain ⟨q, hvz102, st102⟩ : ∃ q : Int32, q = (if (p2 &&& (7 : Int32)) = 0 then d0 else (if (p2 &&& (7 : Int32)) = (1 : Int32) then d1 else (if (p2 &&& (7 : Int32)) = (2 : Int32) then d2 else (if (p2 &&& (7 : Int32)) = (3 : Int32) then (d0 - (1 : Int32)) else (if (p2 &&& (7 : Int32)) = (4 : Int32) then (d1 - (1 : Int32)) else (if (p2 &&& (7 : Int32)) = (5 : Int32) then (d2 - (1 : Int32)) else (if (p2 &&& (7 : Int32)) = (6 : Int32) then (d2 + (1 : Int32)) else p3))))))) ∧ ∀ t, Steps p.tables e below (T96.setTop (mkF m 367 #[.val (.int p0), .val (.int p1), .val (.int p2), .val (.int p3), .val (.int p4), .val (.int p5), .val (.int d0), .val (.int d1), .val (.int d2), .val (.int c0), .val (.int c1), .val (.int c2), .val (.int ve), .val (.int c0), .val (.int s2), .val (.int s3), .val (.int base), .val (.ref bz2), .val (.ref bz23), .val (.int (p2 &&& (7 : Int32))), .val (.int q), .unset, .unset, .unset, .unset, .unset] [])) t → Steps p.tables e below (T96.setTop (mkF m 265 #[.val (.int p0), .val (.int p1), .val (.int p2), .val (.int p3), .val (.int p4), .val (.int p5), .val (.int d0), .val (.int d1), .val (.int d2), .val (.int c0), .val (.int c1), .val (.int c2), .val (.int ve), .val (.int c0), .val (.int s2), .val (.int s3), .val (.int base), .val (.ref bz2), .val (.ref bz23), .val (.int (p2 &&& (7 : Int32))), .unset, .unset, .unset, .unset, .unset, .unset] [])) t := by
      refine ⟨_, rfl, fun t k => ?_⟩
      show Steps p.tables e below (T96.setTop (mkF m 265 #[.val (.int p0), .val (.int p1), .val (.int p2), .val (.int p3), .val (.int p4), .val (.int p5), .val (.int d0), .val (.int d1), .val (.int d2), .val (.int c0), .val (.int c1), .val (.int c2), .val (.int ve), .val (.int c0), .val (.int s2), .val (.int s3), .val (.int base), .val (.ref bz2), .val (.ref bz23), .val (.int (p2 &&& (7 : Int32))), .unset, .unset, .unset, .unset, .unset, .unset] [])) _
      refine XS.iload X96.here hx rfl (hb hby at_265) rfl ?_
      show Steps p.tables e below (T96.setTop (mkF m 267 #[.val (.int p0), .val (.int p1), .val (.int p2), .val (.int p3), .val (.int p4), .val (.int p5), .val (.int d0), .val (.int d1), .val (.int d2), .val (.int c0), .val (.int c1), .val (.int c2), .val (.int ve), .val (.int c0), .val (.int s2), .val (.int s3), .val (.int base), .val (.ref bz2), .val (.ref bz23), .val (.int (p2 &&& (7 : Int32))), .unset, .unset, .unset, .unset, .unset, .unset] [(.int (p2 &&& (7 : Int32)))])) _
      by_cases hs267 : (p2 &&& (7 : Int32)) = 0
      · rw [if_pos hs267] at k
        refine XS.ifNo X96.here hx rfl (hb hby at_267) rfl (XT.i0_ne_f hs267) ?_
        show Steps p.tables e below (T96.setTop (mkF m 270 #[.val (.int p0), .val (.int p1), .val (.int p2), .val (.int p3), .val (.int p4), .val (.int p5), .val (.int d0), .val (.int d1), .val (.int d2), .val (.int c0), .val (.int c1), .val (.int c2), .val (.int ve), .val (.int c0), .val (.int s2), .val (.int s3), .val (.int base), .val (.ref bz2), .val (.ref bz23), .val (.int (p2 &&& (7 : Int32))), .unset, .unset, .unset, .unset, .unset, .unset] [])) _
        refine XS.iload X96.here hx rfl (hb hby at_270) rfl ?_
        show Steps p.tables e below (T96.setTop (mkF m 272 #[.val (.int p0), .val (.int p1), .val (.int p2), .val (.int p3), .val (.int p4), .val (.int p5), .val (.int d0), .val (.int d1), .val (.int d2), .val (.int c0), .val (.int c1), .val (.int c2), .val (.int ve), .val (.int c0), .val (.int s2), .val (.int s3), .val (.int base), .val (.ref bz2), .val (.ref bz23), .val (.int (p2 &&& (7 : Int32))), .unset, .unset, .unset, .unset, .unset, .unset] [(.int d0)])) _
        refine XS.istore X96.here hx rfl (hb hby at_272) rfl (l' := #[.val (.int p0), .val (.int p1), .val (.int p2), .val (.int p3), .val (.int p4), .val (.int p5), .val (.int d0), .val (.int d1), .val (.int d2), .val (.int c0), .val (.int c1), .val (.int c2), .val (.int ve), .val (.int c0), .val (.int s2), .val (.int s3), .val (.int base), .val (.ref bz2), .val (.ref bz23), .val (.int (p2 &&& (7 : Int32))), .val (.int d0), .unset, .unset, .unset, .unset, .unset]) rfl ?_
        show Steps p.tables e below (T96.setTop (mkF m 274 #[.val (.int p0), .val (.int p1), .val (.int p2), .val (.int p3), .val (.int p4), .val (.int p5), .val (.int d0), .val (.int d1), .val (.int d2), .val (.int c0), .val (.int c1), .val (.int c2), .val (.int ve), .val (.int c0), .val (.int s2), .val (.int s3), .val (.int base), .val (.ref bz2), .val (.ref bz23), .val (.int (p2 &&& (7 : Int32))), .val (.int d0), .unset, .unset, .unset, .unset, .unset] [])) _
        refine XS.goto X96.here hx rfl (pc0 := 274) (pc' := 367) rfl (hb hby at_274) (by decide) (by decide) ?_
        exact k
      · rw [if_neg hs267] at k
        refine XS.ifYes X96.here hx rfl (pc0 := 267) (pc' := 277) rfl (hb hby at_267) rfl (XT.i0_ne_t hs267) (by decide) (by decide) ?_
        show Steps p.tables e below (T96.setTop (mkF m 277 #[.val (.int p0), .val (.int p1), .val (.int p2), .val (.int p3), .val (.int p4), .val (.int p5), .val (.int d0), .val (.int d1), .val (.int d2), .val (.int c0), .val (.int c1), .val (.int c2), .val (.int ve), .val (.int c0), .val (.int s2), .val (.int s3), .val (.int base), .val (.ref bz2), .val (.ref bz23), .val (.int (p2 &&& (7 : Int32))), .unset, .unset, .unset, .unset, .unset, .unset] [])) _
        refine XS.iload X96.here hx rfl (hb hby at_277) rfl ?_
        show Steps p.tables e below (T96.setTop (mkF m 279 #[.val (.int p0), .val (.int p1), .val (.int p2), .val (.int p3), .val (.int p4), .val (.int p5), .val (.int d0), .val (.int d1), .val (.int d2), .val (.int c0), .val (.int c1), .val (.int c2), .val (.int ve), .val (.int c0), .val (.int s2), .val (.int s3), .val (.int base), .val (.ref bz2), .val (.ref bz23), .val (.int (p2 &&& (7 : Int32))), .unset, .unset, .unset, .unset, .unset, .unset] [(.int (p2 &&& (7 : Int32)))])) _
        refine XS.iconst X96.here hx rfl (hb hby at_279) ?_
        show Steps p.tables e below (T96.setTop (mkF m 280 #[.val (.int p0), .val (.int p1), .val (.int p2), .val (.int p3), .val (.int p4), .val (.int p5), .val (.int d0), .val (.int d1), .val (.int d2), .val (.int c0), .val (.int c1), .val (.int c2), .val (.int ve), .val (.int c0), .val (.int s2), .val (.int s3), .val (.int base), .val (.ref bz2), .val (.ref bz23), .val (.int (p2 &&& (7 : Int32))), .unset, .unset, .unset, .unset, .unset, .unset] [(.int (1 : Int32)), (.int (p2 &&& (7 : Int32)))])) _
        by_cases hs280 : (p2 &&& (7 : Int32)) = (1 : Int32)
        · rw [if_pos hs280] at k
          refine XS.icmpNo X96.here hx rfl (hb hby at_280) rfl (XT.ii_ne_f hs280) ?_
          show Steps p.tables e below (T96.setTop (mkF m 283 #[.val (.int p0), .val (.int p1), .val (.int p2), .val (.int p3), .val (.int p4), .val (.int p5), .val (.int d0), .val (.int d1), .val (.int d2), .val (.int c0), .val (.int c1), .val (.int c2), .val (.int ve), .val (.int c0), .val (.int s2), .val (.int s3), .val (.int base), .val (.ref bz2), .val (.ref bz23), .val (.int (p2 &&& (7 : Int32))), .unset, .unset, .unset, .unset, .unset, .unset] [])) _
          refine XS.iload X96.here hx rfl (hb hby at_283) rfl ?_
          show Steps p.tables e below (T96.setTop (mkF m 285 #[.val (.int p0), .val (.int p1), .val (.int p2), .val (.int p3), .val (.int p4), .val (.int p5), .val (.int d0), .val (.int d1), .val (.int d2), .val (.int c0), .val (.int c1), .val (.int c2), .val (.int ve), .val (.int c0), .val (.int s2), .val (.int s3), .val (.int base), .val (.ref bz2), .val (.ref bz23), .val (.int (p2 &&& (7 : Int32))), .unset, .unset, .unset, .unset, .unset, .unset] [(.int d1)])) _
          refine XS.istore X96.here hx rfl (hb hby at_285) rfl (l' := #[.val (.int p0), .val (.int p1), .val (.int p2), .val (.int p3), .val (.int p4), .val (.int p5), .val (.int d0), .val (.int d1), .val (.int d2), .val (.int c0), .val (.int c1), .val (.int c2), .val (.int ve), .val (.int c0), .val (.int s2), .val (.int s3), .val (.int base), .val (.ref bz2), .val (.ref bz23), .val (.int (p2 &&& (7 : Int32))), .val (.int d1), .unset, .unset, .unset, .unset, .unset]) rfl ?_
          show Steps p.tables e below (T96.setTop (mkF m 287 #[.val (.int p0), .val (.int p1), .val (.int p2), .val (.int p3), .val (.int p4), .val (.int p5), .val (.int d0), .val (.int d1), .val (.int d2), .val (.int c0), .val (.int c1), .val (.int c2), .val (.int ve), .val (.int c0), .val (.int s2), .val (.int s3), .val (.int base), .val (.ref bz2), .val (.ref bz23), .val (.int (p2 &&& (7 : Int32))), .val (.int d1), .unset, .unset, .unset, .unset, .unset] [])) _
          refine XS.goto X96.here hx rfl (pc0 := 287) (pc' := 367) rfl (hb hby at_287) (by decide) (by decide) ?_
          exact k
        · rw [if_neg hs280] at k
          refine XS.icmpYes X96.here hx rfl (pc0 := 280) (pc' := 290) rfl (hb hby at_280) rfl (XT.ii_ne_t hs280) (by decide) (by decide) ?_
          show Steps p.tables e below (T96.setTop (mkF m 290 #[.val (.int p0), .val (.int p1), .val (.int p2), .val (.int p3), .val (.int p4), .val (.int p5), .val (.int d0), .val (.int d1), .val (.int d2), .val (.int c0), .val (.int c1), .val (.int c2), .val (.int ve), .val (.int c0), .val (.int s2), .val (.int s3), .val (.int base), .val (.ref bz2), .val (.ref bz23), .val (.int (p2 &&& (7 : Int32))), .unset, .unset, .unset, .unset, .unset, .unset] [])) _
          refine XS.iload X96.here hx rfl (hb hby at_290) rfl ?_
          show Steps p.tables e below (T96.setTop (mkF m 292 #[.val (.int p0), .val (.int p1), .val (.int p2), .val (.int p3), .val (.int p4), .val (.int p5), .val (.int d0), .val (.int d1), .val (.int d2), .val (.int c0), .val (.int c1), .val (.int c2), .val (.int ve), .val (.int c0), .val (.int s2), .val (.int s3), .val (.int base), .val (.ref bz2), .val (.ref bz23), .val (.int (p2 &&& (7 : Int32))), .unset, .unset, .unset, .unset, .unset, .unset] [(.int (p2 &&& (7 : Int32)))])) _
          refine XS.iconst X96.here hx rfl (hb hby at_292) ?_
          show Steps p.tables e below (T96.setTop (mkF m 293 #[.val (.int p0), .val (.int p1), .val (.int p2), .val (.int p3), .val (.int p4), .val (.int p5), .val (.int d0), .val (.int d1), .val (.int d2), .val (.int c0), .val (.int c1), .val (.int c2), .val (.int ve), .val (.int c0), .val (.int s2), .val (.int s3), .val (.int base), .val (.ref bz2), .val (.ref bz23), .val (.int (p2 &&& (7 : Int32))), .unset, .unset, .unset, .unset, .unset, .unset] [(.int (2 : Int32)), (.int (p2 &&& (7 : Int32)))])) _
          by_cases hs293 : (p2 &&& (7 : Int32)) = (2 : Int32)
          · rw [if_pos hs293] at k
            refine XS.icmpNo X96.here hx rfl (hb hby at_293) rfl (XT.ii_ne_f hs293) ?_
            show Steps p.tables e below (T96.setTop (mkF m 296 #[.val (.int p0), .val (.int p1), .val (.int p2), .val (.int p3), .val (.int p4), .val (.int p5), .val (.int d0), .val (.int d1), .val (.int d2), .val (.int c0), .val (.int c1), .val (.int c2), .val (.int ve), .val (.int c0), .val (.int s2), .val (.int s3), .val (.int base), .val (.ref bz2), .val (.ref bz23), .val (.int (p2 &&& (7 : Int32))), .unset, .unset, .unset, .unset, .unset, .unset] [])) _
            refine XS.iload X96.here hx rfl (hb hby at_296) rfl ?_
            show Steps p.tables e below (T96.setTop (mkF m 298 #[.val (.int p0), .val (.int p1), .val (.int p2), .val (.int p3), .val (.int p4), .val (.int p5), .val (.int d0), .val (.int d1), .val (.int d2), .val (.int c0), .val (.int c1), .val (.int c2), .val (.int ve), .val (.int c0), .val (.int s2), .val (.int s3), .val (.int base), .val (.ref bz2), .val (.ref bz23), .val (.int (p2 &&& (7 : Int32))), .unset, .unset, .unset, .unset, .unset, .unset] [(.int d2)])) _
            refine XS.istore X96.here hx rfl (hb hby at_298) rfl (l' := #[.val (.int p0), .val (.int p1), .val (.int p2), .val (.int p3), .val (.int p4), .val (.int p5), .val (.int d0), .val (.int d1), .val (.int d2), .val (.int c0), .val (.int c1), .val (.int c2), .val (.int ve), .val (.int c0), .val (.int s2), .val (.int s3), .val (.int base), .val (.ref bz2), .val (.ref bz23), .val (.int (p2 &&& (7 : Int32))), .val (.int d2), .unset, .unset, .unset, .unset, .unset]) rfl ?_
            show Steps p.tables e below (T96.setTop (mkF m 300 #[.val (.int p0), .val (.int p1), .val (.int p2), .val (.int p3), .val (.int p4), .val (.int p5), .val (.int d0), .val (.int d1), .val (.int d2), .val (.int c0), .val (.int c1), .val (.int c2), .val (.int ve), .val (.int c0), .val (.int s2), .val (.int s3), .val (.int base), .val (.ref bz2), .val (.ref bz23), .val (.int (p2 &&& (7 : Int32))), .val (.int d2), .unset, .unset, .unset, .unset, .unset] [])) _
            refine XS.goto X96.here hx rfl (pc0 := 300) (pc' := 367) rfl (hb hby at_300) (by decide) (by decide) ?_
            exact k
          · rw [if_neg hs293] at k
            refine XS.icmpYes X96.here hx rfl (pc0 := 293) (pc' := 303) rfl (hb hby at_293) rfl (XT.ii_ne_t hs293) (by decide) (by decide) ?_
            show Steps p.tables e below (T96.setTop (mkF m 303 #[.val (.int p0), .val (.int p1), .val (.int p2), .val (.int p3), .val (.int p4), .val (.int p5), .val (.int d0), .val (.int d1), .val (.int d2), .val (.int c0), .val (.int c1), .val (.int c2), .val (.int ve), .val (.int c0), .val (.int s2), .val (.int s3), .val (.int base), .val (.ref bz2), .val (.ref bz23), .val (.int (p2 &&& (7 : Int32))), .unset, .unset, .unset, .unset, .unset, .unset] [])) _
            refine XS.iload X96.here hx rfl (hb hby at_303) rfl ?_
            show Steps p.tables e below (T96.setTop (mkF m 305 #[.val (.int p0), .val (.int p1), .val (.int p2), .val (.int p3), .val (.int p4), .val (.int p5), .val (.int d0), .val (.int d1), .val (.int d2), .val (.int c0), .val (.int c1), .val (.int c2), .val (.int ve), .val (.int c0), .val (.int s2), .val (.int s3), .val (.int base), .val (.ref bz2), .val (.ref bz23), .val (.int (p2 &&& (7 : Int32))), .unset, .unset, .unset, .unset, .unset, .unset] [(.int (p2 &&& (7 : Int32)))])) _
            refine XS.iconst X96.here hx rfl (hb hby at_305) ?_
            show Steps p.tables e below (T96.setTop (mkF m 306 #[.val (.int p0), .val (.int p1), .val (.int p2), .val (.int p3), .val (.int p4), .val (.int p5), .val (.int d0), .val (.int d1), .val (.int d2), .val (.int c0), .val (.int c1), .val (.int c2), .val (.int ve), .val (.int c0), .val (.int s2), .val (.int s3), .val (.int base), .val (.ref bz2), .val (.ref bz23), .val (.int (p2 &&& (7 : Int32))), .unset, .unset, .unset, .unset, .unset, .unset] [(.int (3 : Int32)), (.int (p2 &&& (7 : Int32)))])) _
            by_cases hs306 : (p2 &&& (7 : Int32)) = (3 : Int32)
            · rw [if_pos hs306] at k
              refine XS.icmpNo X96.here hx rfl (hb hby at_306) rfl (XT.ii_ne_f hs306) ?_
              show Steps p.tables e below (T96.setTop (mkF m 309 #[.val (.int p0), .val (.int p1), .val (.int p2), .val (.int p3), .val (.int p4), .val (.int p5), .val (.int d0), .val (.int d1), .val (.int d2), .val (.int c0), .val (.int c1), .val (.int c2), .val (.int ve), .val (.int c0), .val (.int s2), .val (.int s3), .val (.int base), .val (.ref bz2), .val (.ref bz23), .val (.int (p2 &&& (7 : Int32))), .unset, .unset, .unset, .unset, .unset, .unset] [])) _
              refine XS.iload X96.here hx rfl (hb hby at_309) rfl ?_
              show Steps p.tables e below (T96.setTop (mkF m 311 #[.val (.int p0), .val (.int p1), .val (.int p2), .val (.int p3), .val (.int p4), .val (.int p5), .val (.int d0), .val (.int d1), .val (.int d2), .val (.int c0), .val (.int c1), .val (.int c2), .val (.int ve), .val (.int c0), .val (.int s2), .val (.int s3), .val (.int base), .val (.ref bz2), .val (.ref bz23), .val (.int (p2 &&& (7 : Int32))), .unset, .unset, .unset, .unset, .unset, .unset] [(.int d0)])) _
              refine XS.iconst X96.here hx rfl (hb hby at_311) ?_
              show Steps p.tables e below (T96.setTop (mkF m 312 #[.val (.int p0), .val (.int p1), .val (.int p2), .val (.int p3), .val (.int p4), .val (.int p5), .val (.int d0), .val (.int d1), .val (.int d2), .val (.int c0), .val (.int c1), .val (.int c2), .val (.int ve), .val (.int c0), .val (.int s2), .val (.int s3), .val (.int base), .val (.ref bz2), .val (.ref bz23), .val (.int (p2 &&& (7 : Int32))), .unset, .unset, .unset, .unset, .unset, .unset] [(.int (1 : Int32)), (.int d0)])) _
              refine XS.isub X96.here hx rfl (hb hby at_312) rfl ?_
              show Steps p.tables e below (T96.setTop (mkF m 313 #[.val (.int p0), .val (.int p1), .val (.int p2), .val (.int p3), .val (.int p4), .val (.int p5), .val (.int d0), .val (.int d1), .val (.int d2), .val (.int c0), .val (.int c1), .val (.int c2), .val (.int ve), .val (.int c0), .val (.int s2), .val (.int s3), .val (.int base), .val (.ref bz2), .val (.ref bz23), .val (.int (p2 &&& (7 : Int32))), .unset, .unset, .unset, .unset, .unset, .unset] [(.int (d0 - (1 : Int32)))])) _
              refine XS.istore X96.here hx rfl (hb hby at_313) rfl (l' := #[.val (.int p0), .val (.int p1), .val (.int p2), .val (.int p3), .val (.int p4), .val (.int p5), .val (.int d0), .val (.int d1), .val (.int d2), .val (.int c0), .val (.int c1), .val (.int c2), .val (.int ve), .val (.int c0), .val (.int s2), .val (.int s3), .val (.int base), .val (.ref bz2), .val (.ref bz23), .val (.int (p2 &&& (7 : Int32))), .val (.int (d0 - (1 : Int32))), .unset, .unset, .unset, .unset, .unset]) rfl ?_
              show Steps p.tables e below (T96.setTop (mkF m 315 #[.val (.int p0), .val (.int p1), .val (.int p2), .val (.int p3), .val (.int p4), .val (.int p5), .val (.int d0), .val (.int d1), .val (.int d2), .val (.int c0), .val (.int c1), .val (.int c2), .val (.int ve), .val (.int c0), .val (.int s2), .val (.int s3), .val (.int base), .val (.ref bz2), .val (.ref bz23), .val (.int (p2 &&& (7 : Int32))), .val (.int (d0 - (1 : Int32))), .unset, .unset, .unset, .unset, .unset] [])) _
              refine XS.goto X96.here hx rfl (pc0 := 315) (pc' := 367) rfl (hb hby at_315) (by decide) (by decide) ?_
              exact k
            · rw [if_neg hs306] at k
              refine XS.icmpYes X96.here hx rfl (pc0 := 306) (pc' := 318) rfl (hb hby at_306) rfl (XT.ii_ne_t hs306) (by decide) (by decide) ?_
              show Steps p.tables e below (T96.setTop (mkF m 318 #[.val (.int p0), .val (.int p1), .val (.int p2), .val (.int p3), .val (.int p4), .val (.int p5), .val (.int d0), .val (.int d1), .val (.int d2), .val (.int c0), .val (.int c1), .val (.int c2), .val (.int ve), .val (.int c0), .val (.int s2), .val (.int s3), .val (.int base), .val (.ref bz2), .val (.ref bz23), .val (.int (p2 &&& (7 : Int32))), .unset, .unset, .unset, .unset, .unset, .unset] [])) _
              refine XS.iload X96.here hx rfl (hb hby at_318) rfl ?_
              show Steps p.tables e below (T96.setTop (mkF m 320 #[.val (.int p0), .val (.int p1), .val (.int p2), .val (.int p3), .val (.int p4), .val (.int p5), .val (.int d0), .val (.int d1), .val (.int d2), .val (.int c0), .val (.int c1), .val (.int c2), .val (.int ve), .val (.int c0), .val (.int s2), .val (.int s3), .val (.int base), .val (.ref bz2), .val (.ref bz23), .val (.int (p2 &&& (7 : Int32))), .unset, .unset, .unset, .unset, .unset, .unset] [(.int (p2 &&& (7 : Int32)))])) _
              refine XS.iconst X96.here hx rfl (hb hby at_320) ?_
              show Steps p.tables e below (T96.setTop (mkF m 321 #[.val (.int p0), .val (.int p1), .val (.int p2), .val (.int p3), .val (.int p4), .val (.int p5), .val (.int d0), .val (.int d1), .val (.int d2), .val (.int c0), .val (.int c1), .val (.int c2), .val (.int ve), .val (.int c0), .val (.int s2), .val (.int s3), .val (.int base), .val (.ref bz2), .val (.ref bz23), .val (.int (p2 &&& (7 : Int32))), .unset, .unset, .unset, .unset, .unset, .unset] [(.int (4 : Int32)), (.int (p2 &&& (7 : Int32)))])) _
              by_cases hs321 : (p2 &&& (7 : Int32)) = (4 : Int32)
              · rw [if_pos hs321] at k
                refine XS.icmpNo X96.here hx rfl (hb hby at_321) rfl (XT.ii_ne_f hs321) ?_
                show Steps p.tables e below (T96.setTop (mkF m 324 #[.val (.int p0), .val (.int p1), .val (.int p2), .val (.int p3), .val (.int p4), .val (.int p5), .val (.int d0), .val (.int d1), .val (.int d2), .val (.int c0), .val (.int c1), .val (.int c2), .val (.int ve), .val (.int c0), .val (.int s2), .val (.int s3), .val (.int base), .val (.ref bz2), .val (.ref bz23), .val (.int (p2 &&& (7 : Int32))), .unset, .unset, .unset, .unset, .unset, .unset] [])) _
                refine XS.iload X96.here hx rfl (hb hby at_324) rfl ?_
                show Steps p.tables e below (T96.setTop (mkF m 326 #[.val (.int p0), .val (.int p1), .val (.int p2), .val (.int p3), .val (.int p4), .val (.int p5), .val (.int d0), .val (.int d1), .val (.int d2), .val (.int c0), .val (.int c1), .val (.int c2), .val (.int ve), .val (.int c0), .val (.int s2), .val (.int s3), .val (.int base), .val (.ref bz2), .val (.ref bz23), .val (.int (p2 &&& (7 : Int32))), .unset, .unset, .unset, .unset, .unset, .unset] [(.int d1)])) _
                refine XS.iconst X96.here hx rfl (hb hby at_326) ?_
                show Steps p.tables e below (T96.setTop (mkF m 327 #[.val (.int p0), .val (.int p1), .val (.int p2), .val (.int p3), .val (.int p4), .val (.int p5), .val (.int d0), .val (.int d1), .val (.int d2), .val (.int c0), .val (.int c1), .val (.int c2), .val (.int ve), .val (.int c0), .val (.int s2), .val (.int s3), .val (.int base), .val (.ref bz2), .val (.ref bz23), .val (.int (p2 &&& (7 : Int32))), .unset, .unset, .unset, .unset, .unset, .unset] [(.int (1 : Int32)), (.int d1)])) _
                refine XS.isub X96.here hx rfl (hb hby at_327) rfl ?_
                show Steps p.tables e below (T96.setTop (mkF m 328 #[.val (.int p0), .val (.int p1), .val (.int p2), .val (.int p3), .val (.int p4), .val (.int p5), .val (.int d0), .val (.int d1), .val (.int d2), .val (.int c0), .val (.int c1), .val (.int c2), .val (.int ve), .val (.int c0), .val (.int s2), .val (.int s3), .val (.int base), .val (.ref bz2), .val (.ref bz23), .val (.int (p2 &&& (7 : Int32))), .unset, .unset, .unset, .unset, .unset, .unset] [(.int (d1 - (1 : Int32)))])) _
                refine XS.istore X96.here hx rfl (hb hby at_328) rfl (l' := #[.val (.int p0), .val (.int p1), .val (.int p2), .val (.int p3), .val (.int p4), .val (.int p5), .val (.int d0), .val (.int d1), .val (.int d2), .val (.int c0), .val (.int c1), .val (.int c2), .val (.int ve), .val (.int c0), .val (.int s2), .val (.int s3), .val (.int base), .val (.ref bz2), .val (.ref bz23), .val (.int (p2 &&& (7 : Int32))), .val (.int (d1 - (1 : Int32))), .unset, .unset, .unset, .unset, .unset]) rfl ?_
                show Steps p.tables e below (T96.setTop (mkF m 330 #[.val (.int p0), .val (.int p1), .val (.int p2), .val (.int p3), .val (.int p4), .val (.int p5), .val (.int d0), .val (.int d1), .val (.int d2), .val (.int c0), .val (.int c1), .val (.int c2), .val (.int ve), .val (.int c0), .val (.int s2), .val (.int s3), .val (.int base), .val (.ref bz2), .val (.ref bz23), .val (.int (p2 &&& (7 : Int32))), .val (.int (d1 - (1 : Int32))), .unset, .unset, .unset, .unset, .unset] [])) _
                refine XS.goto X96.here hx rfl (pc0 := 330) (pc' := 367) rfl (hb hby at_330) (by decide) (by decide) ?_
                exact k
              · rw [if_neg hs321] at k
                refine XS.icmpYes X96.here hx rfl (pc0 := 321) (pc' := 333) rfl (hb hby at_321) rfl (XT.ii_ne_t hs321) (by decide) (by decide) ?_
                show Steps p.tables e below (T96.setTop (mkF m 333 #[.val (.int p0), .val (.int p1), .val (.int p2), .val (.int p3), .val (.int p4), .val (.int p5), .val (.int d0), .val (.int d1), .val (.int d2), .val (.int c0), .val (.int c1), .val (.int c2), .val (.int ve), .val (.int c0), .val (.int s2), .val (.int s3), .val (.int base), .val (.ref bz2), .val (.ref bz23), .val (.int (p2 &&& (7 : Int32))), .unset, .unset, .unset, .unset, .unset, .unset] [])) _
                refine XS.iload X96.here hx rfl (hb hby at_333) rfl ?_
                show Steps p.tables e below (T96.setTop (mkF m 335 #[.val (.int p0), .val (.int p1), .val (.int p2), .val (.int p3), .val (.int p4), .val (.int p5), .val (.int d0), .val (.int d1), .val (.int d2), .val (.int c0), .val (.int c1), .val (.int c2), .val (.int ve), .val (.int c0), .val (.int s2), .val (.int s3), .val (.int base), .val (.ref bz2), .val (.ref bz23), .val (.int (p2 &&& (7 : Int32))), .unset, .unset, .unset, .unset, .unset, .unset] [(.int (p2 &&& (7 : Int32)))])) _
                refine XS.iconst X96.here hx rfl (hb hby at_335) ?_
                show Steps p.tables e below (T96.setTop (mkF m 336 #[.val (.int p0), .val (.int p1), .val (.int p2), .val (.int p3), .val (.int p4), .val (.int p5), .val (.int d0), .val (.int d1), .val (.int d2), .val (.int c0), .val (.int c1), .val (.int c2), .val (.int ve), .val (.int c0), .val (.int s2), .val (.int s3), .val (.int base), .val (.ref bz2), .val (.ref bz23), .val (.int (p2 &&& (7 : Int32))), .unset, .unset, .unset, .unset, .unset, .unset] [(.int (5 : Int32)), (.int (p2 &&& (7 : Int32)))])) _
                by_cases hs336 : (p2 &&& (7 : Int32)) = (5 : Int32)
                · rw [if_pos hs336] at k
                  refine XS.icmpNo X96.here hx rfl (hb hby at_336) rfl (XT.ii_ne_f hs336) ?_
                  show Steps p.tables e below (T96.setTop (mkF m 339 #[.val (.int p0), .val (.int p1), .val (.int p2), .val (.int p3), .val (.int p4), .val (.int p5), .val (.int d0), .val (.int d1), .val (.int d2), .val (.int c0), .val (.int c1), .val (.int c2), .val (.int ve), .val (.int c0), .val (.int s2), .val (.int s3), .val (.int base), .val (.ref bz2), .val (.ref bz23), .val (.int (p2 &&& (7 : Int32))), .unset, .unset, .unset, .unset, .unset, .unset] [])) _
                  refine XS.iload X96.here hx rfl (hb hby at_339) rfl ?_
                  show Steps p.tables e below (T96.setTop (mkF m 341 #[.val (.int p0), .val (.int p1), .val (.int p2), .val (.int p3), .val (.int p4), .val (.int p5), .val (.int d0), .val (.int d1), .val (.int d2), .val (.int c0), .val (.int c1), .val (.int c2), .val (.int ve), .val (.int c0), .val (.int s2), .val (.int s3), .val (.int base), .val (.ref bz2), .val (.ref bz23), .val (.int (p2 &&& (7 : Int32))), .unset, .unset, .unset, .unset, .unset, .unset] [(.int d2)])) _
                  refine XS.iconst X96.here hx rfl (hb hby at_341) ?_
                  show Steps p.tables e below (T96.setTop (mkF m 342 #[.val (.int p0), .val (.int p1), .val (.int p2), .val (.int p3), .val (.int p4), .val (.int p5), .val (.int d0), .val (.int d1), .val (.int d2), .val (.int c0), .val (.int c1), .val (.int c2), .val (.int ve), .val (.int c0), .val (.int s2), .val (.int s3), .val (.int base), .val (.ref bz2), .val (.ref bz23), .val (.int (p2 &&& (7 : Int32))), .unset, .unset, .unset, .unset, .unset, .unset] [(.int (1 : Int32)), (.int d2)])) _
                  refine XS.isub X96.here hx rfl (hb hby at_342) rfl ?_
                  show Steps p.tables e below (T96.setTop (mkF m 343 #[.val (.int p0), .val (.int p1), .val (.int p2), .val (.int p3), .val (.int p4), .val (.int p5), .val (.int d0), .val (.int d1), .val (.int d2), .val (.int c0), .val (.int c1), .val (.int c2), .val (.int ve), .val (.int c0), .val (.int s2), .val (.int s3), .val (.int base), .val (.ref bz2), .val (.ref bz23), .val (.int (p2 &&& (7 : Int32))), .unset, .unset, .unset, .unset, .unset, .unset] [(.int (d2 - (1 : Int32)))])) _
                  refine XS.istore X96.here hx rfl (hb hby at_343) rfl (l' := #[.val (.int p0), .val (.int p1), .val (.int p2), .val (.int p3), .val (.int p4), .val (.int p5), .val (.int d0), .val (.int d1), .val (.int d2), .val (.int c0), .val (.int c1), .val (.int c2), .val (.int ve), .val (.int c0), .val (.int s2), .val (.int s3), .val (.int base), .val (.ref bz2), .val (.ref bz23), .val (.int (p2 &&& (7 : Int32))), .val (.int (d2 - (1 : Int32))), .unset, .unset, .unset, .unset, .unset]) rfl ?_
                  show Steps p.tables e below (T96.setTop (mkF m 345 #[.val (.int p0), .val (.int p1), .val (.int p2), .val (.int p3), .val (.int p4), .val (.int p5), .val (.int d0), .val (.int d1), .val (.int d2), .val (.int c0), .val (.int c1), .val (.int c2), .val (.int ve), .val (.int c0), .val (.int s2), .val (.int s3), .val (.int base), .val (.ref bz2), .val (.ref bz23), .val (.int (p2 &&& (7 : Int32))), .val (.int (d2 - (1 : Int32))), .unset, .unset, .unset, .unset, .unset] [])) _
                  refine XS.goto X96.here hx rfl (pc0 := 345) (pc' := 367) rfl (hb hby at_345) (by decide) (by decide) ?_
                  exact k
                · rw [if_neg hs336] at k
                  refine XS.icmpYes X96.here hx rfl (pc0 := 336) (pc' := 348) rfl (hb hby at_336) rfl (XT.ii_ne_t hs336) (by decide) (by decide) ?_
                  show Steps p.tables e below (T96.setTop (mkF m 348 #[.val (.int p0), .val (.int p1), .val (.int p2), .val (.int p3), .val (.int p4), .val (.int p5), .val (.int d0), .val (.int d1), .val (.int d2), .val (.int c0), .val (.int c1), .val (.int c2), .val (.int ve), .val (.int c0), .val (.int s2), .val (.int s3), .val (.int base), .val (.ref bz2), .val (.ref bz23), .val (.int (p2 &&& (7 : Int32))), .unset, .unset, .unset, .unset, .unset, .unset] [])) _
                  refine XS.iload X96.here hx rfl (hb hby at_348) rfl ?_
                  show Steps p.tables e below (T96.setTop (mkF m 350 #[.val (.int p0), .val (.int p1), .val (.int p2), .val (.int p3), .val (.int p4), .val (.int p5), .val (.int d0), .val (.int d1), .val (.int d2), .val (.int c0), .val (.int c1), .val (.int c2), .val (.int ve), .val (.int c0), .val (.int s2), .val (.int s3), .val (.int base), .val (.ref bz2), .val (.ref bz23), .val (.int (p2 &&& (7 : Int32))), .unset, .unset, .unset, .unset, .unset, .unset] [(.int (p2 &&& (7 : Int32)))])) _
                  refine XS.bipush X96.here hx rfl (hb hby at_350) ?_
                  show Steps p.tables e below (T96.setTop (mkF m 352 #[.val (.int p0), .val (.int p1), .val (.int p2), .val (.int p3), .val (.int p4), .val (.int p5), .val (.int d0), .val (.int d1), .val (.int d2), .val (.int c0), .val (.int c1), .val (.int c2), .val (.int ve), .val (.int c0), .val (.int s2), .val (.int s3), .val (.int base), .val (.ref bz2), .val (.ref bz23), .val (.int (p2 &&& (7 : Int32))), .unset, .unset, .unset, .unset, .unset, .unset] [(.int (6 : Int32)), (.int (p2 &&& (7 : Int32)))])) _
                  by_cases hs352 : (p2 &&& (7 : Int32)) = (6 : Int32)
                  · rw [if_pos hs352] at k
                    refine XS.icmpNo X96.here hx rfl (hb hby at_352) rfl (XT.ii_ne_f hs352) ?_
                    show Steps p.tables e below (T96.setTop (mkF m 355 #[.val (.int p0), .val (.int p1), .val (.int p2), .val (.int p3), .val (.int p4), .val (.int p5), .val (.int d0), .val (.int d1), .val (.int d2), .val (.int c0), .val (.int c1), .val (.int c2), .val (.int ve), .val (.int c0), .val (.int s2), .val (.int s3), .val (.int base), .val (.ref bz2), .val (.ref bz23), .val (.int (p2 &&& (7 : Int32))), .unset, .unset, .unset, .unset, .unset, .unset] [])) _
                    refine XS.iload X96.here hx rfl (hb hby at_355) rfl ?_
                    show Steps p.tables e below (T96.setTop (mkF m 357 #[.val (.int p0), .val (.int p1), .val (.int p2), .val (.int p3), .val (.int p4), .val (.int p5), .val (.int d0), .val (.int d1), .val (.int d2), .val (.int c0), .val (.int c1), .val (.int c2), .val (.int ve), .val (.int c0), .val (.int s2), .val (.int s3), .val (.int base), .val (.ref bz2), .val (.ref bz23), .val (.int (p2 &&& (7 : Int32))), .unset, .unset, .unset, .unset, .unset, .unset] [(.int d2)])) _
                    refine XS.iconst X96.here hx rfl (hb hby at_357) ?_
                    show Steps p.tables e below (T96.setTop (mkF m 358 #[.val (.int p0), .val (.int p1), .val (.int p2), .val (.int p3), .val (.int p4), .val (.int p5), .val (.int d0), .val (.int d1), .val (.int d2), .val (.int c0), .val (.int c1), .val (.int c2), .val (.int ve), .val (.int c0), .val (.int s2), .val (.int s3), .val (.int base), .val (.ref bz2), .val (.ref bz23), .val (.int (p2 &&& (7 : Int32))), .unset, .unset, .unset, .unset, .unset, .unset] [(.int (1 : Int32)), (.int d2)])) _
                    refine XS.iadd X96.here hx rfl (hb hby at_358) rfl ?_
                    show Steps p.tables e below (T96.setTop (mkF m 359 #[.val (.int p0), .val (.int p1), .val (.int p2), .val (.int p3), .val (.int p4), .val (.int p5), .val (.int d0), .val (.int d1), .val (.int d2), .val (.int c0), .val (.int c1), .val (.int c2), .val (.int ve), .val (.int c0), .val (.int s2), .val (.int s3), .val (.int base), .val (.ref bz2), .val (.ref bz23), .val (.int (p2 &&& (7 : Int32))), .unset, .unset, .unset, .unset, .unset, .unset] [(.int (d2 + (1 : Int32)))])) _
                    refine XS.istore X96.here hx rfl (hb hby at_359) rfl (l' := #[.val (.int p0), .val (.int p1), .val (.int p2), .val (.int p3), .val (.int p4), .val (.int p5), .val (.int d0), .val (.int d1), .val (.int d2), .val (.int c0), .val (.int c1), .val (.int c2), .val (.int ve), .val (.int c0), .val (.int s2), .val (.int s3), .val (.int base), .val (.ref bz2), .val (.ref bz23), .val (.int (p2 &&& (7 : Int32))), .val (.int (d2 + (1 : Int32))), .unset, .unset, .unset, .unset, .unset]) rfl ?_
                    show Steps p.tables e below (T96.setTop (mkF m 361 #[.val (.int p0), .val (.int p1), .val (.int p2), .val (.int p3), .val (.int p4), .val (.int p5), .val (.int d0), .val (.int d1), .val (.int d2), .val (.int c0), .val (.int c1), .val (.int c2), .val (.int ve), .val (.int c0), .val (.int s2), .val (.int s3), .val (.int base), .val (.ref bz2), .val (.ref bz23), .val (.int (p2 &&& (7 : Int32))), .val (.int (d2 + (1 : Int32))), .unset, .unset, .unset, .unset, .unset] [])) _
                    refine XS.goto X96.here hx rfl (pc0 := 361) (pc' := 367) rfl (hb hby at_361) (by decide) (by decide) ?_
                    exact k
                  · rw [if_neg hs352] at k
                    refine XS.icmpYes X96.here hx rfl (pc0 := 352) (pc' := 364) rfl (hb hby at_352) rfl (XT.ii_ne_t hs352) (by decide) (by decide) ?_
                    show Steps p.tables e below (T96.setTop (mkF m 364 #[.val (.int p0), .val (.int p1), .val (.int p2), .val (.int p3), .val (.int p4), .val (.int p5), .val (.int d0), .val (.int d1), .val (.int d2), .val (.int c0), .val (.int c1), .val (.int c2), .val (.int ve), .val (.int c0), .val (.int s2), .val (.int s3), .val (.int base), .val (.ref bz2), .val (.ref bz23), .val (.int (p2 &&& (7 : Int32))), .unset, .unset, .unset, .unset, .unset, .unset] [])) _
                    refine XS.iloadN X96.here hx rfl (hb hby at_364) rfl ?_
                    show Steps p.tables e below (T96.setTop (mkF m 365 #[.val (.int p0), .val (.int p1), .val (.int p2), .val (.int p3), .val (.int p4), .val (.int p5), .val (.int d0), .val (.int d1), .val (.int d2), .val (.int c0), .val (.int c1), .val (.int c2), .val (.int ve), .val (.int c0), .val (.int s2), .val (.int s3), .val (.int base), .val (.ref bz2), .val (.ref bz23), .val (.int (p2 &&& (7 : Int32))), .unset, .unset, .unset, .unset, .unset, .unset] [(.int p3)])) _
                    refine XS.istore X96.here hx rfl (hb hby at_365) rfl (l' := #[.val (.int p0), .val (.int p1), .val (.int p2), .val (.int p3), .val (.int p4), .val (.int p5), .val (.int d0), .val (.int d1), .val (.int d2), .val (.int c0), .val (.int c1), .val (.int c2), .val (.int ve), .val (.int c0), .val (.int s2), .val (.int s3), .val (.int base), .val (.ref bz2), .val (.ref bz23), .val (.int (p2 &&& (7 : Int32))), .val (.int p3), .unset, .unset, .unset, .unset, .unset]) rfl ?_
                    exact k
    refine OGo.st st102 ?_
    by_cases e0_ : q = d0
    · skip
      show OGo p.tables e below _ (T96.setTop (mkF m 367 #[.val (.int p0), .val (.int p1), .val (.int p2), .val (.int p3), .val (.int p4), .val (.int p5), .val (.int d0), .val (.int d1), .val (.int d2), .val (.int c0), .val (.int c1), .val (.int c2), .val (.int ve), .val (.int c0), .val (.int s2), .val (.int s3), .val (.int base), .val (.ref bz2), .val (.ref bz23), .val (.int (p2 &&& (7 : Int32))), .val (.int q), .unset, .unset, .unset, .unset, .unset] []))
      refine OGo.st (fun _ k_ => XS.aload X96.here hx rfl (hb hby at_367) rfl rfl k_) ?_
      show OGo p.tables e below _ (T96.setTop (mkF m 369 #[.val (.int p0), .val (.int p1), .val (.int p2), .val (.int p3), .val (.int p4), .val (.int p5), .val (.int d0), .val (.int d1), .val (.int d2), .val (.int c0), .val (.int c1), .val (.int c2), .val (.int ve), .val (.int c0), .val (.int s2), .val (.int s3), .val (.int base), .val (.ref bz2), .val (.ref bz23), .val (.int (p2 &&& (7 : Int32))), .val (.int q), .unset, .unset, .unset, .unset, .unset] [(.ref bz23)]))
      refine OGo.st (fun _ k_ => XS.iload X96.here hx rfl (hb hby at_369) rfl k_) ?_
      show OGo p.tables e below _ (T96.setTop (mkF m 371 #[.val (.int p0), .val (.int p1), .val (.int p2), .val (.int p3), .val (.int p4), .val (.int p5), .val (.int d0), .val (.int d1), .val (.int d2), .val (.int c0), .val (.int c1), .val (.int c2), .val (.int ve), .val (.int c0), .val (.int s2), .val (.int s3), .val (.int base), .val (.ref bz2), .val (.ref bz23), .val (.int (p2 &&& (7 : Int32))), .val (.int q), .unset, .unset, .unset, .unset, .unset] [(.int q), (.ref bz23)]))
      obtain ⟨cq103, kqz103, qz103a, qz103b, qz103c⟩ := isOf hZ rfl Ex_98
      obtain ⟨_, _, ⟨T103, Lz103, kz103, nz103⟩, -, X103, ⟨Lc103, hQ103, lz103, yz103, zz103⟩, st103⟩ := X96.virtualBack hx (y := (⟨"com/example/cari/cari/index/Positions", "in", "(I)[I"⟩ : MethodName)) (z := (⟨"com/example/cari/cari/index/Positions", "in", "(I)[I"⟩ : MethodName)) hown (mvT hZ (hw _ (List.mem_of_getElem? (i := 17) rfl))) (mvT hZ (hw _ (List.mem_of_getElem? (i := 18) rfl))) (notFace_of_selects (args := #[]) (mvT hZ (hw _ (List.mem_of_getElem? (i := 20) rfl)))) (mvT hZ (hw _ (List.mem_of_getElem? (i := 20) rfl))) (mvT hZ (hw _ (List.mem_of_getElem? (i := 19) rfl))) (by decide) (backOf (W := 0) (rm10 l Z a0 hw [] bz23 q bz26 bz55 bz2 kz26 kz55 kz2 d0 d1 d2 c0 s2 s3 (own_9 base) T96.heap n0 (Nat.le_trans Z0 K_101.1) qz96_0 qz96_1 qz96_2 Af_99 Af_100 Af_97 (own_b0 hd e0_) hs.1) hZ (hw _ (List.mem_of_getElem? (i := 21) rfl)) (hw _ (List.mem_of_getElem? (i := 4) rfl)) (by decide) (by decide)) qz103a qz103c (g := (mkF m 371 #[.val (.int p0), .val (.int p1), .val (.int p2), .val (.int p3), .val (.int p4), .val (.int p5), .val (.int d0), .val (.int d1), .val (.int d2), .val (.int c0), .val (.int c1), .val (.int c2), .val (.int ve), .val (.int c0), .val (.int s2), .val (.int s3), .val (.int base), .val (.ref bz2), .val (.ref bz23), .val (.int (p2 &&& (7 : Int32))), .val (.int q), .unset, .unset, .unset, .unset, .unset] [(.int q), (.ref bz23)])) rfl (by rw [hml]; rfl) (Steps.refl _) (argsL := [(.int q)]) (rest := []) (lenOf own_pd6 rfl) rfl (by show 2 * 0 + _ ≤ _; exact Nat.le_of_eq rfl) (hb hby at_371) (fun _ _ => ⟨rfl, rfl, (by decide : 4 + 1 ≤ _), (by decide : 19 + 3 ≤ _)⟩)
      dsimp only [Pt.U, Pt.locs, Pt.cells, Pt.slots] at X103 lz103 yz103 zz103 st103 hQ103
      have X103 := own_reb X103 lz103 yz103 zz103
      have X103 : Stand p l e room_1 s m #[(.int p0), (.int p1), (.int p2), (.int p3), (.int p4), (.int p5)] below meth c T103 _ 5 22 := X103
      obtain ⟨rb103, kr103, rfl, Nq103, Kq103, szr103, Ar103⟩ := hQ103
      have N103 := Fr.app N96 Nq103
      have ne_bz2_rb103 : bz2 ≠ rb103 := Nat.ne_of_lt (Nat.lt_of_lt_of_le Af_97.lt szr103)
      have ne_bz23_rb103 : bz23 ≠ rb103 := Nat.ne_of_lt (Nat.lt_of_lt_of_le Ex_98.lt szr103)
      have ne_bz26_rb103 : bz26 ≠ rb103 := Nat.ne_of_lt (Nat.lt_of_lt_of_le Af_99.lt szr103)
      have ne_bz55_rb103 : bz55 ≠ rb103 := Nat.ne_of_lt (Nat.lt_of_lt_of_le Af_100.lt szr103)
      have g_rb103 : n0 ≤ rb103 := Nat.le_trans (Nat.le_trans Z0 K_101.1) szr103
      have sz_rb103 : h0.size ≤ rb103 := Nat.le_trans K_101.1 szr103
      have Af_104 := Af_97.keep Kq103 nin0
      have Ex_105 := Ex_98.keep Kq103
      have Af_106 := Af_99.keep Kq103 nin0
      have Af_107 := Af_100.keep Kq103 nin0
      have F_108 := qz96_0.keep Kq103 nin0
      have F_109 := qz96_1.keep Kq103 nin0
      have F_110 := qz96_2.keep Kq103 nin0
      have K_111 : Keep h0 T103.heap [] := K_101.trans Kq103 all0
      refine OGo.tr st103 ?_
      show OGo p.tables e below _ (T103.setTop (mkF m 374 #[.val (.int p0), .val (.int p1), .val (.int p2), .val (.int p3), .val (.int p4), .val (.int p5), .val (.int d0), .val (.int d1), .val (.int d2), .val (.int c0), .val (.int c1), .val (.int c2), .val (.int ve), .val (.int c0), .val (.int s2), .val (.int s3), .val (.int base), .val (.ref bz2), .val (.ref bz23), .val (.int (p2 &&& (7 : Int32))), .val (.int q), .unset, .unset, .unset, .unset, .unset] [(.ref rb103)]))
      refine OGo.st (fun _ k_ => XS.astore X103.here hx rfl (hb hby at_374) rfl rfl (l' := #[.val (.int p0), .val (.int p1), .val (.int p2), .val (.int p3), .val (.int p4), .val (.int p5), .val (.int d0), .val (.int d1), .val (.int d2), .val (.int c0), .val (.int c1), .val (.int c2), .val (.int ve), .val (.int c0), .val (.int s2), .val (.int s3), .val (.int base), .val (.ref bz2), .val (.ref bz23), .val (.int (p2 &&& (7 : Int32))), .val (.int q), .val (.ref rb103), .unset, .unset, .unset, .unset]) rfl k_) ?_
      show OGo p.tables e below _ (T103.setTop (mkF m 376 #[.val (.int p0), .val (.int p1), .val (.int p2), .val (.int p3), .val (.int p4), .val (.int p5), .val (.int d0), .val (.int d1), .val (.int d2), .val (.int c0), .val (.int c1), .val (.int c2), .val (.int ve), .val (.int c0), .val (.int s2), .val (.int s3), .val (.int base), .val (.ref bz2), .val (.ref bz23), .val (.int (p2 &&& (7 : Int32))), .val (.int q), .val (.ref rb103), .unset, .unset, .unset, .unset] []))
      refine OGo.st (fun _ k_ => XS.aload X103.here hx rfl (hb hby at_376) rfl rfl k_) ?_
      show OGo p.tables e below _ (T103.setTop (mkF m 378 #[.val (.int p0), .val (.int p1), .val (.int p2), .val (.int p3), .val (.int p4), .val (.int p5), .val (.int d0), .val (.int d1), .val (.int d2), .val (.int c0), .val (.int c1), .val (.int c2), .val (.int ve), .val (.int c0), .val (.int s2), .val (.int s3), .val (.int base), .val (.ref bz2), .val (.ref bz23), .val (.int (p2 &&& (7 : Int32))), .val (.int q), .val (.ref rb103), .unset, .unset, .unset, .unset] [(.ref bz23)]))
      refine OGo.st (fun _ k_ => XS.iload X103.here hx rfl (hb hby at_378) rfl k_) ?_
      show OGo p.tables e below _ (T103.setTop (mkF m 380 #[.val (.int p0), .val (.int p1), .val (.int p2), .val (.int p3), .val (.int p4), .val (.int p5), .val (.int d0), .val (.int d1), .val (.int d2), .val (.int c0), .val (.int c1), .val (.int c2), .val (.int ve), .val (.int c0), .val (.int s2), .val (.int s3), .val (.int base), .val (.ref bz2), .val (.ref bz23), .val (.int (p2 &&& (7 : Int32))), .val (.int q), .val (.ref rb103), .unset, .unset, .unset, .unset] [(.int q), (.ref bz23)]))
      obtain ⟨cq112, kqz112, qz112a, qz112b, qz112c⟩ := isOf hZ rfl Ex_105
      obtain ⟨_, _, ⟨T112, Lz112, kz112, nz112⟩, -, X112, ⟨Lc112, hQ112, lz112, yz112, zz112⟩, st112⟩ := X103.virtualBack hx (y := (⟨"com/example/cari/cari/index/Positions", "in", "(I)[I"⟩ : MethodName)) (z := (⟨"com/example/cari/cari/index/Positions", "in", "(I)[I"⟩ : MethodName)) hown (mvT hZ (hw _ (List.mem_of_getElem? (i := 17) rfl))) (mvT hZ (hw _ (List.mem_of_getElem? (i := 18) rfl))) (notFace_of_selects (args := #[]) (mvT hZ (hw _ (List.mem_of_getElem? (i := 20) rfl)))) (mvT hZ (hw _ (List.mem_of_getElem? (i := 20) rfl))) (mvT hZ (hw _ (List.mem_of_getElem? (i := 19) rfl))) (by decide) (backOf (W := 0) (rm10 l Z a0 hw [] bz23 q bz26 bz55 bz2 kz26 kz55 kz2 d0 d1 d2 c0 s2 s3 (own_9 base) T103.heap n0 (Nat.le_trans Z0 K_111.1) F_108 F_109 F_110 Af_106 Af_107 Af_104 (own_b0 hd e0_) hs.1) hZ (hw _ (List.mem_of_getElem? (i := 21) rfl)) (hw _ (List.mem_of_getElem? (i := 4) rfl)) (by decide) (by decide)) qz112a qz112c (g := (mkF m 380 #[.val (.int p0), .val (.int p1), .val (.int p2), .val (.int p3), .val (.int p4), .val (.int p5), .val (.int d0), .val (.int d1), .val (.int d2), .val (.int c0), .val (.int c1), .val (.int c2), .val (.int ve), .val (.int c0), .val (.int s2), .val (.int s3), .val (.int base), .val (.ref bz2), .val (.ref bz23), .val (.int (p2 &&& (7 : Int32))), .val (.int q), .val (.ref rb103), .unset, .unset, .unset, .unset] [(.int q), (.ref bz23)])) rfl (by rw [hml]; rfl) (Steps.refl _) (argsL := [(.int q)]) (rest := []) (lenOf own_pd6 rfl) rfl (by show 2 * 0 + _ ≤ _; exact Nat.le_of_eq rfl) (hb hby at_380) (fun _ _ => ⟨rfl, rfl, (by decide : 5 + 1 ≤ _), (by decide : 22 + 3 ≤ _)⟩)
      dsimp only [Pt.U, Pt.locs, Pt.cells, Pt.slots] at X112 lz112 yz112 zz112 st112 hQ112
      have X112 := own_reb X112 lz112 yz112 zz112
      have X112 : Stand p l e room_1 s m #[(.int p0), (.int p1), (.int p2), (.int p3), (.int p4), (.int p5)] below meth c T112 _ 6 25 := X112
      obtain ⟨rb112, kr112, rfl, Nq112, Kq112, szr112, Ar112⟩ := hQ112
      have N112 := Fr.app N103 Nq112
      have ne_bz2_rb112 : bz2 ≠ rb112 := Nat.ne_of_lt (Nat.lt_of_lt_of_le Af_104.lt szr112)
      have ne_bz23_rb112 : bz23 ≠ rb112 := Nat.ne_of_lt (Nat.lt_of_lt_of_le Ex_105.lt szr112)
      have ne_bz26_rb112 : bz26 ≠ rb112 := Nat.ne_of_lt (Nat.lt_of_lt_of_le Af_106.lt szr112)
      have ne_bz55_rb112 : bz55 ≠ rb112 := Nat.ne_of_lt (Nat.lt_of_lt_of_le Af_107.lt szr112)
      have ne_rb103_rb112 : rb103 ≠ rb112 := Nat.ne_of_lt (Nat.lt_of_lt_of_le Ar103.lt szr112)
      have g_rb112 : n0 ≤ rb112 := Nat.le_trans (Nat.le_trans Z0 K_111.1) szr112
      have sz_rb112 : h0.size ≤ rb112 := Nat.le_trans K_111.1 szr112
      have Af_113 := Af_104.keep Kq112 nin0
      have Ex_114 := Ex_105.keep Kq112
      have Af_115 := Af_106.keep Kq112 nin0
      have Af_116 := Af_107.keep Kq112 nin0
      have F_117 := F_108.keep Kq112 nin0
      have F_118 := F_109.keep Kq112 nin0
      have F_119 := F_110.keep Kq112 nin0
      have Af_120 := Ar103.keep Kq112 nin0
      have K_121 : Keep h0 T112.heap [] := K_111.trans Kq112 all0
      refine OGo.tr st112 ?_
      show OGo p.tables e below _ (T112.setTop (mkF m 383 #[.val (.int p0), .val (.int p1), .val (.int p2), .val (.int p3), .val (.int p4), .val (.int p5), .val (.int d0), .val (.int d1), .val (.int d2), .val (.int c0), .val (.int c1), .val (.int c2), .val (.int ve), .val (.int c0), .val (.int s2), .val (.int s3), .val (.int base), .val (.ref bz2), .val (.ref bz23), .val (.int (p2 &&& (7 : Int32))), .val (.int q), .val (.ref rb103), .unset, .unset, .unset, .unset] [(.ref rb112)]))
      refine OGo.st (fun _ k_ => XS.astore X112.here hx rfl (hb hby at_383) rfl rfl (l' := #[.val (.int p0), .val (.int p1), .val (.int p2), .val (.int p3), .val (.int p4), .val (.int p5), .val (.int d0), .val (.int d1), .val (.int d2), .val (.int c0), .val (.int c1), .val (.int c2), .val (.int ve), .val (.int c0), .val (.int s2), .val (.int s3), .val (.int base), .val (.ref bz2), .val (.ref bz23), .val (.int (p2 &&& (7 : Int32))), .val (.int q), .val (.ref rb103), .val (.ref rb112), .unset, .unset, .unset]) rfl k_) ?_
      show OGo p.tables e below _ (T112.setTop (mkF m 385 #[.val (.int p0), .val (.int p1), .val (.int p2), .val (.int p3), .val (.int p4), .val (.int p5), .val (.int d0), .val (.int d1), .val (.int d2), .val (.int c0), .val (.int c1), .val (.int c2), .val (.int ve), .val (.int c0), .val (.int s2), .val (.int s3), .val (.int base), .val (.ref bz2), .val (.ref bz23), .val (.int (p2 &&& (7 : Int32))), .val (.int q), .val (.ref rb103), .val (.ref rb112), .unset, .unset, .unset] []))
      refine OGo.st (fun _ k_ => XS.iconst X112.here hx rfl (hb hby at_385) k_) ?_
      show OGo p.tables e below _ (T112.setTop (mkF m 386 #[.val (.int p0), .val (.int p1), .val (.int p2), .val (.int p3), .val (.int p4), .val (.int p5), .val (.int d0), .val (.int d1), .val (.int d2), .val (.int c0), .val (.int c1), .val (.int c2), .val (.int ve), .val (.int c0), .val (.int s2), .val (.int s3), .val (.int base), .val (.ref bz2), .val (.ref bz23), .val (.int (p2 &&& (7 : Int32))), .val (.int q), .val (.ref rb103), .val (.ref rb112), .unset, .unset, .unset] [(.int (0 : Int32))]))
      refine OGo.st (fun _ k_ => XS.istore X112.here hx rfl (hb hby at_386) rfl (l' := #[.val (.int p0), .val (.int p1), .val (.int p2), .val (.int p3), .val (.int p4), .val (.int p5), .val (.int d0), .val (.int d1), .val (.int d2), .val (.int c0), .val (.int c1), .val (.int c2), .val (.int ve), .val (.int c0), .val (.int s2), .val (.int s3), .val (.int base), .val (.ref bz2), .val (.ref bz23), .val (.int (p2 &&& (7 : Int32))), .val (.int q), .val (.ref rb103), .val (.ref rb112), .val (.int (0 : Int32)), .unset, .unset]) rfl k_) ?_
      show OGo p.tables e below _ (T112.setTop (mkF m 388 #[.val (.int p0), .val (.int p1), .val (.int p2), .val (.int p3), .val (.int p4), .val (.int p5), .val (.int d0), .val (.int d1), .val (.int d2), .val (.int c0), .val (.int c1), .val (.int c2), .val (.int ve), .val (.int c0), .val (.int s2), .val (.int s3), .val (.int base), .val (.ref bz2), .val (.ref bz23), .val (.int (p2 &&& (7 : Int32))), .val (.int q), .val (.ref rb103), .val (.ref rb112), .val (.int (0 : Int32)), .unset, .unset] []))
      refine OGo.st (fun _ k_ => XS.iconst X112.here hx rfl (hb hby at_388) k_) ?_
      show OGo p.tables e below _ (T112.setTop (mkF m 389 #[.val (.int p0), .val (.int p1), .val (.int p2), .val (.int p3), .val (.int p4), .val (.int p5), .val (.int d0), .val (.int d1), .val (.int d2), .val (.int c0), .val (.int c1), .val (.int c2), .val (.int ve), .val (.int c0), .val (.int s2), .val (.int s3), .val (.int base), .val (.ref bz2), .val (.ref bz23), .val (.int (p2 &&& (7 : Int32))), .val (.int q), .val (.ref rb103), .val (.ref rb112), .val (.int (0 : Int32)), .unset, .unset] [(.int (0 : Int32))]))
      refine OGo.st (fun _ k_ => XS.istore X112.here hx rfl (hb hby at_389) rfl (l' := #[.val (.int p0), .val (.int p1), .val (.int p2), .val (.int p3), .val (.int p4), .val (.int p5), .val (.int d0), .val (.int d1), .val (.int d2), .val (.int c0), .val (.int c1), .val (.int c2), .val (.int ve), .val (.int c0), .val (.int s2), .val (.int s3), .val (.int base), .val (.ref bz2), .val (.ref bz23), .val (.int (p2 &&& (7 : Int32))), .val (.int q), .val (.ref rb103), .val (.ref rb112), .val (.int (0 : Int32)), .val (.int (0 : Int32)), .unset]) rfl k_) ?_
      show OGo p.tables e below _ (T112.setTop (mkF m 391 #[.val (.int p0), .val (.int p1), .val (.int p2), .val (.int p3), .val (.int p4), .val (.int p5), .val (.int d0), .val (.int d1), .val (.int d2), .val (.int c0), .val (.int c1), .val (.int c2), .val (.int ve), .val (.int c0), .val (.int s2), .val (.int s3), .val (.int base), .val (.ref bz2), .val (.ref bz23), .val (.int (p2 &&& (7 : Int32))), .val (.int q), .val (.ref rb103), .val (.ref rb112), .val (.int (0 : Int32)), .val (.int (0 : Int32)), .unset] []))
      refine OGo.st (fun _ k_ => XS.iload X112.here hx rfl (hb hby at_391) rfl k_) ?_
      show OGo p.tables e below _ (T112.setTop (mkF m 393 #[.val (.int p0), .val (.int p1), .val (.int p2), .val (.int p3), .val (.int p4), .val (.int p5), .val (.int d0), .val (.int d1), .val (.int d2), .val (.int c0), .val (.int c1), .val (.int c2), .val (.int ve), .val (.int c0), .val (.int s2), .val (.int s3), .val (.int base), .val (.ref bz2), .val (.ref bz23), .val (.int (p2 &&& (7 : Int32))), .val (.int q), .val (.ref rb103), .val (.ref rb112), .val (.int (0 : Int32)), .val (.int (0 : Int32)), .unset] [(.int ve)]))
      refine OGo.st (fun _ k_ => XS.ifNo X112.here hx rfl (hb hby at_393) rfl (XT.i0_ne_f hem) k_) ?_
      show OGo p.tables e below _ (T112.setTop (mkF m 396 #[.val (.int p0), .val (.int p1), .val (.int p2), .val (.int p3), .val (.int p4), .val (.int p5), .val (.int d0), .val (.int d1), .val (.int d2), .val (.int c0), .val (.int c1), .val (.int c2), .val (.int ve), .val (.int c0), .val (.int s2), .val (.int s3), .val (.int base), .val (.ref bz2), .val (.ref bz23), .val (.int (p2 &&& (7 : Int32))), .val (.int q), .val (.ref rb103), .val (.ref rb112), .val (.int (0 : Int32)), .val (.int (0 : Int32)), .unset] []))
      refine OGo.st (fun _ k_ => XS.iload X112.here hx rfl (hb hby at_396) rfl k_) ?_
      show OGo p.tables e below _ (T112.setTop (mkF m 398 #[.val (.int p0), .val (.int p1), .val (.int p2), .val (.int p3), .val (.int p4), .val (.int p5), .val (.int d0), .val (.int d1), .val (.int d2), .val (.int c0), .val (.int c1), .val (.int c2), .val (.int ve), .val (.int c0), .val (.int s2), .val (.int s3), .val (.int base), .val (.ref bz2), .val (.ref bz23), .val (.int (p2 &&& (7 : Int32))), .val (.int q), .val (.ref rb103), .val (.ref rb112), .val (.int (0 : Int32)), .val (.int (0 : Int32)), .unset] [(.int q)]))
      refine OGo.st (fun _ k_ => XS.iload X112.here hx rfl (hb hby at_398) rfl k_) ?_
      show OGo p.tables e below _ (T112.setTop (mkF m 400 #[.val (.int p0), .val (.int p1), .val (.int p2), .val (.int p3), .val (.int p4), .val (.int p5), .val (.int d0), .val (.int d1), .val (.int d2), .val (.int c0), .val (.int c1), .val (.int c2), .val (.int ve), .val (.int c0), .val (.int s2), .val (.int s3), .val (.int base), .val (.ref bz2), .val (.ref bz23), .val (.int (p2 &&& (7 : Int32))), .val (.int q), .val (.ref rb103), .val (.ref rb112), .val (.int (0 : Int32)), .val (.int (0 : Int32)), .unset] [(.int d0), (.int q)]))
      refine OGo.st (fun _ k_ => XS.icmpNo X112.here hx rfl (hb hby at_400) rfl (XT.ii_ne_f e0_) k_) ?_
      show OGo p.tables e below _ (T112.setTop (mkF m 403 #[.val (.int p0), .val (.int p1), .val (.int p2), .val (.int p3), .val (.int p4), .val (.int p5), .val (.int d0), .val (.int d1), .val (.int d2), .val (.int c0), .val (.int c1), .val (.int c2), .val (.int ve), .val (.int c0), .val (.int s2), .val (.int s3), .val (.int base), .val (.ref bz2), .val (.ref bz23), .val (.int (p2 &&& (7 : Int32))), .val (.int q), .val (.ref rb103), .val (.ref rb112), .val (.int (0 : Int32)), .val (.int (0 : Int32)), .unset] []))
      refine OGo.st (fun _ k_ => XS.iconst X112.here hx rfl (hb hby at_403) k_) ?_
      show OGo p.tables e below _ (T112.setTop (mkF m 404 #[.val (.int p0), .val (.int p1), .val (.int p2), .val (.int p3), .val (.int p4), .val (.int p5), .val (.int d0), .val (.int d1), .val (.int d2), .val (.int c0), .val (.int c1), .val (.int c2), .val (.int ve), .val (.int c0), .val (.int s2), .val (.int s3), .val (.int base), .val (.ref bz2), .val (.ref bz23), .val (.int (p2 &&& (7 : Int32))), .val (.int q), .val (.ref rb103), .val (.ref rb112), .val (.int (0 : Int32)), .val (.int (0 : Int32)), .unset] [(.int (0 : Int32))]))
      refine OGo.st (fun _ k_ => XS.istore X112.here hx rfl (hb hby at_404) rfl (l' := #[.val (.int p0), .val (.int p1), .val (.int p2), .val (.int p3), .val (.int p4), .val (.int p5), .val (.int d0), .val (.int d1), .val (.int d2), .val (.int c0), .val (.int c1), .val (.int c2), .val (.int ve), .val (.int c0), .val (.int s2), .val (.int s3), .val (.int base), .val (.ref bz2), .val (.ref bz23), .val (.int (p2 &&& (7 : Int32))), .val (.int q), .val (.ref rb103), .val (.ref rb112), .val (.int (0 : Int32)), .val (.int (0 : Int32)), .unset]) rfl k_) ?_
      show OGo p.tables e below _ (T112.setTop (mkF m 406 #[.val (.int p0), .val (.int p1), .val (.int p2), .val (.int p3), .val (.int p4), .val (.int p5), .val (.int d0), .val (.int d1), .val (.int d2), .val (.int c0), .val (.int c1), .val (.int c2), .val (.int ve), .val (.int c0), .val (.int s2), .val (.int s3), .val (.int base), .val (.ref bz2), .val (.ref bz23), .val (.int (p2 &&& (7 : Int32))), .val (.int q), .val (.ref rb103), .val (.ref rb112), .val (.int (0 : Int32)), .val (.int (0 : Int32)), .unset] []))
      refine OGo.st (fun _ k_ => XS.iload X112.here hx rfl (hb hby at_406) rfl k_) ?_
      show OGo p.tables e below _ (T112.setTop (mkF m 408 #[.val (.int p0), .val (.int p1), .val (.int p2), .val (.int p3), .val (.int p4), .val (.int p5), .val (.int d0), .val (.int d1), .val (.int d2), .val (.int c0), .val (.int c1), .val (.int c2), .val (.int ve), .val (.int c0), .val (.int s2), .val (.int s3), .val (.int base), .val (.ref bz2), .val (.ref bz23), .val (.int (p2 &&& (7 : Int32))), .val (.int q), .val (.ref rb103), .val (.ref rb112), .val (.int (0 : Int32)), .val (.int (0 : Int32)), .unset] [(.int c0)]))
      refine OGo.st (fun _ k_ => XS.istore X112.here hx rfl (hb hby at_408) rfl (l' := #[.val (.int p0), .val (.int p1), .val (.int p2), .val (.int p3), .val (.int p4), .val (.int p5), .val (.int d0), .val (.int d1), .val (.int d2), .val (.int c0), .val (.int c1), .val (.int c2), .val (.int ve), .val (.int c0), .val (.int s2), .val (.int s3), .val (.int base), .val (.ref bz2), .val (.ref bz23), .val (.int (p2 &&& (7 : Int32))), .val (.int q), .val (.ref rb103), .val (.ref rb112), .val (.int (0 : Int32)), .val (.int c0), .unset]) rfl k_) ?_
      show OGo p.tables e below _ (T112.setTop (mkF m 410 #[.val (.int p0), .val (.int p1), .val (.int p2), .val (.int p3), .val (.int p4), .val (.int p5), .val (.int d0), .val (.int d1), .val (.int d2), .val (.int c0), .val (.int c1), .val (.int c2), .val (.int ve), .val (.int c0), .val (.int s2), .val (.int s3), .val (.int base), .val (.ref bz2), .val (.ref bz23), .val (.int (p2 &&& (7 : Int32))), .val (.int q), .val (.ref rb103), .val (.ref rb112), .val (.int (0 : Int32)), .val (.int c0), .unset] []))
      refine OGo.st (fun _ k_ => XS.goto X112.here hx rfl (pc0 := 410) (pc' := 446) rfl (hb hby at_410) (by decide) (by decide) k_) ?_
      show OGo p.tables e below _ (T112.setTop (mkF m 446 #[.val (.int p0), .val (.int p1), .val (.int p2), .val (.int p3), .val (.int p4), .val (.int p5), .val (.int d0), .val (.int d1), .val (.int d2), .val (.int c0), .val (.int c1), .val (.int c2), .val (.int ve), .val (.int c0), .val (.int s2), .val (.int s3), .val (.int base), .val (.ref bz2), .val (.ref bz23), .val (.int (p2 &&& (7 : Int32))), .val (.int q), .val (.ref rb103), .val (.ref rb112), .val (.int (0 : Int32)), .val (.int c0), .unset] []))
      refine OGo.st (fun _ k_ => XS.iload X112.here hx rfl (hb hby at_446) rfl k_) ?_
      show OGo p.tables e below _ (T112.setTop (mkF m 448 #[.val (.int p0), .val (.int p1), .val (.int p2), .val (.int p3), .val (.int p4), .val (.int p5), .val (.int d0), .val (.int d1), .val (.int d2), .val (.int c0), .val (.int c1), .val (.int c2), .val (.int ve), .val (.int c0), .val (.int s2), .val (.int s3), .val (.int base), .val (.ref bz2), .val (.ref bz23), .val (.int (p2 &&& (7 : Int32))), .val (.int q), .val (.ref rb103), .val (.ref rb112), .val (.int (0 : Int32)), .val (.int c0), .unset] [(.int c0)]))
      refine OGo.st (fun _ k_ => XS.iload X112.here hx rfl (hb hby at_448) rfl k_) ?_
      show OGo p.tables e below _ (T112.setTop (mkF m 450 #[.val (.int p0), .val (.int p1), .val (.int p2), .val (.int p3), .val (.int p4), .val (.int p5), .val (.int d0), .val (.int d1), .val (.int d2), .val (.int c0), .val (.int c1), .val (.int c2), .val (.int ve), .val (.int c0), .val (.int s2), .val (.int s3), .val (.int base), .val (.ref bz2), .val (.ref bz23), .val (.int (p2 &&& (7 : Int32))), .val (.int q), .val (.ref rb103), .val (.ref rb112), .val (.int (0 : Int32)), .val (.int c0), .unset] [(.int (0 : Int32)), (.int c0)]))
      refine OGo.st (fun _ k_ => XS.isub X112.here hx rfl (hb hby at_450) rfl k_) ?_
      show OGo p.tables e below _ (T112.setTop (mkF m 451 #[.val (.int p0), .val (.int p1), .val (.int p2), .val (.int p3), .val (.int p4), .val (.int p5), .val (.int d0), .val (.int d1), .val (.int d2), .val (.int c0), .val (.int c1), .val (.int c2), .val (.int ve), .val (.int c0), .val (.int s2), .val (.int s3), .val (.int base), .val (.ref bz2), .val (.ref bz23), .val (.int (p2 &&& (7 : Int32))), .val (.int q), .val (.ref rb103), .val (.ref rb112), .val (.int (0 : Int32)), .val (.int c0), .unset] [(.int (c0 - (0 : Int32)))]))
      refine OGo.st (fun _ k_ => XS.istore X112.here hx rfl (hb hby at_451) rfl (l' := #[.val (.int p0), .val (.int p1), .val (.int p2), .val (.int p3), .val (.int p4), .val (.int p5), .val (.int d0), .val (.int d1), .val (.int d2), .val (.int c0), .val (.int c1), .val (.int c2), .val (.int ve), .val (.int c0), .val (.int s2), .val (.int s3), .val (.int base), .val (.ref bz2), .val (.ref bz23), .val (.int (p2 &&& (7 : Int32))), .val (.int q), .val (.ref rb103), .val (.ref rb112), .val (.int (0 : Int32)), .val (.int c0), .val (.int (c0 - (0 : Int32)))]) rfl k_) ?_
      show OGo p.tables e below _ (T112.setTop (mkF m 453 #[.val (.int p0), .val (.int p1), .val (.int p2), .val (.int p3), .val (.int p4), .val (.int p5), .val (.int d0), .val (.int d1), .val (.int d2), .val (.int c0), .val (.int c1), .val (.int c2), .val (.int ve), .val (.int c0), .val (.int s2), .val (.int s3), .val (.int base), .val (.ref bz2), .val (.ref bz23), .val (.int (p2 &&& (7 : Int32))), .val (.int q), .val (.ref rb103), .val (.ref rb112), .val (.int (0 : Int32)), .val (.int c0), .val (.int (c0 - (0 : Int32)))] []))
      refine OGo.st (fun _ k_ => XS.aload X112.here hx rfl (hb hby at_453) rfl rfl k_) ?_
      show OGo p.tables e below _ (T112.setTop (mkF m 455 #[.val (.int p0), .val (.int p1), .val (.int p2), .val (.int p3), .val (.int p4), .val (.int p5), .val (.int d0), .val (.int d1), .val (.int d2), .val (.int c0), .val (.int c1), .val (.int c2), .val (.int ve), .val (.int c0), .val (.int s2), .val (.int s3), .val (.int base), .val (.ref bz2), .val (.ref bz23), .val (.int (p2 &&& (7 : Int32))), .val (.int q), .val (.ref rb103), .val (.ref rb112), .val (.int (0 : Int32)), .val (.int c0), .val (.int (c0 - (0 : Int32)))] [(.ref rb103)]))
      refine OGo.st (fun _ k_ => XT.nullNo X112.here hx rfl (hb hby at_455) rfl rfl nofun k_) ?_
      show OGo p.tables e below _ (T112.setTop (mkF m 458 #[.val (.int p0), .val (.int p1), .val (.int p2), .val (.int p3), .val (.int p4), .val (.int p5), .val (.int d0), .val (.int d1), .val (.int d2), .val (.int c0), .val (.int c1), .val (.int c2), .val (.int ve), .val (.int c0), .val (.int s2), .val (.int s3), .val (.int base), .val (.ref bz2), .val (.ref bz23), .val (.int (p2 &&& (7 : Int32))), .val (.int q), .val (.ref rb103), .val (.ref rb112), .val (.int (0 : Int32)), .val (.int c0), .val (.int (c0 - (0 : Int32)))] []))
      refine OGo.st (fun _ k_ => XS.aload X112.here hx rfl (hb hby at_458) rfl rfl k_) ?_
      show OGo p.tables e below _ (T112.setTop (mkF m 460 #[.val (.int p0), .val (.int p1), .val (.int p2), .val (.int p3), .val (.int p4), .val (.int p5), .val (.int d0), .val (.int d1), .val (.int d2), .val (.int c0), .val (.int c1), .val (.int c2), .val (.int ve), .val (.int c0), .val (.int s2), .val (.int s3), .val (.int base), .val (.ref bz2), .val (.ref bz23), .val (.int (p2 &&& (7 : Int32))), .val (.int q), .val (.ref rb103), .val (.ref rb112), .val (.int (0 : Int32)), .val (.int c0), .val (.int (c0 - (0 : Int32)))] [(.ref rb112)]))
      refine OGo.st (fun _ k_ => XT.nullNo X112.here hx rfl (hb hby at_460) rfl rfl nofun k_) ?_
      show OGo p.tables e below _ (T112.setTop (mkF m 463 #[.val (.int p0), .val (.int p1), .val (.int p2), .val (.int p3), .val (.int p4), .val (.int p5), .val (.int d0), .val (.int d1), .val (.int d2), .val (.int c0), .val (.int c1), .val (.int c2), .val (.int ve), .val (.int c0), .val (.int s2), .val (.int s3), .val (.int base), .val (.ref bz2), .val (.ref bz23), .val (.int (p2 &&& (7 : Int32))), .val (.int q), .val (.ref rb103), .val (.ref rb112), .val (.int (0 : Int32)), .val (.int c0), .val (.int (c0 - (0 : Int32)))] []))
      refine OGo.st (fun _ k_ => XS.aload X112.here hx rfl (hb hby at_463) rfl rfl k_) ?_
      show OGo p.tables e below _ (T112.setTop (mkF m 465 #[.val (.int p0), .val (.int p1), .val (.int p2), .val (.int p3), .val (.int p4), .val (.int p5), .val (.int d0), .val (.int d1), .val (.int d2), .val (.int c0), .val (.int c1), .val (.int c2), .val (.int ve), .val (.int c0), .val (.int s2), .val (.int s3), .val (.int base), .val (.ref bz2), .val (.ref bz23), .val (.int (p2 &&& (7 : Int32))), .val (.int q), .val (.ref rb103), .val (.ref rb112), .val (.int (0 : Int32)), .val (.int c0), .val (.int (c0 - (0 : Int32)))] [(.ref rb103)]))
      refine OGo.st (fun _ k_ => XS.aload X112.here hx rfl (hb hby at_465) rfl rfl k_) ?_
      show OGo p.tables e below _ (T112.setTop (mkF m 467 #[.val (.int p0), .val (.int p1), .val (.int p2), .val (.int p3), .val (.int p4), .val (.int p5), .val (.int d0), .val (.int d1), .val (.int d2), .val (.int c0), .val (.int c1), .val (.int c2), .val (.int ve), .val (.int c0), .val (.int s2), .val (.int s3), .val (.int base), .val (.ref bz2), .val (.ref bz23), .val (.int (p2 &&& (7 : Int32))), .val (.int q), .val (.ref rb103), .val (.ref rb112), .val (.int (0 : Int32)), .val (.int c0), .val (.int (c0 - (0 : Int32)))] [(.ref rb112), (.ref rb103)]))
      refine OGo.st (fun _ k_ => XT.acmpNo X112.here hx rfl (hb hby at_467) rfl rfl rfl (XT.aa_eq_f (fun q => ne_rb103_rb112 (Value.ref.inj q))) k_) ?_
      show OGo p.tables e below _ (T112.setTop (mkF m 470 #[.val (.int p0), .val (.int p1), .val (.int p2), .val (.int p3), .val (.int p4), .val (.int p5), .val (.int d0), .val (.int d1), .val (.int d2), .val (.int c0), .val (.int c1), .val (.int c2), .val (.int ve), .val (.int c0), .val (.int s2), .val (.int s3), .val (.int base), .val (.ref bz2), .val (.ref bz23), .val (.int (p2 &&& (7 : Int32))), .val (.int q), .val (.ref rb103), .val (.ref rb112), .val (.int (0 : Int32)), .val (.int c0), .val (.int (c0 - (0 : Int32)))] []))
      refine OGo.st (fun _ k_ => XS.aload X112.here hx rfl (hb hby at_470) rfl rfl k_) ?_
      show OGo p.tables e below _ (T112.setTop (mkF m 472 #[.val (.int p0), .val (.int p1), .val (.int p2), .val (.int p3), .val (.int p4), .val (.int p5), .val (.int d0), .val (.int d1), .val (.int d2), .val (.int c0), .val (.int c1), .val (.int c2), .val (.int ve), .val (.int c0), .val (.int s2), .val (.int s3), .val (.int base), .val (.ref bz2), .val (.ref bz23), .val (.int (p2 &&& (7 : Int32))), .val (.int q), .val (.ref rb103), .val (.ref rb112), .val (.int (0 : Int32)), .val (.int c0), .val (.int (c0 - (0 : Int32)))] [(.ref rb103)]))
      refine OGo.st (fun _ k_ => XS.aload X112.here hx rfl (hb hby at_472) rfl rfl k_) ?_
      show OGo p.tables e below _ (T112.setTop (mkF m 474 #[.val (.int p0), .val (.int p1), .val (.int p2), .val (.int p3), .val (.int p4), .val (.int p5), .val (.int d0), .val (.int d1), .val (.int d2), .val (.int c0), .val (.int c1), .val (.int c2), .val (.int ve), .val (.int c0), .val (.int s2), .val (.int s3), .val (.int base), .val (.ref bz2), .val (.ref bz23), .val (.int (p2 &&& (7 : Int32))), .val (.int q), .val (.ref rb103), .val (.ref rb112), .val (.int (0 : Int32)), .val (.int c0), .val (.int (c0 - (0 : Int32)))] [(.ref bz2), (.ref rb103)]))
      refine OGo.st (fun _ k_ => XT.acmpYes X112.here hx rfl (pc0 := 474) (pc' := 479) rfl (hb hby at_474) rfl rfl rfl (XT.aa_ne_t (fun q => (Ne.symm ne_bz2_rb103) (Value.ref.inj q))) (by decide) (by decide) k_) ?_
      show OGo p.tables e below _ (T112.setTop (mkF m 479 #[.val (.int p0), .val (.int p1), .val (.int p2), .val (.int p3), .val (.int p4), .val (.int p5), .val (.int d0), .val (.int d1), .val (.int d2), .val (.int c0), .val (.int c1), .val (.int c2), .val (.int ve), .val (.int c0), .val (.int s2), .val (.int s3), .val (.int base), .val (.ref bz2), .val (.ref bz23), .val (.int (p2 &&& (7 : Int32))), .val (.int q), .val (.ref rb103), .val (.ref rb112), .val (.int (0 : Int32)), .val (.int c0), .val (.int (c0 - (0 : Int32)))] []))
      refine OGo.st (fun _ k_ => XS.aload X112.here hx rfl (hb hby at_479) rfl rfl k_) ?_
      show OGo p.tables e below _ (T112.setTop (mkF m 481 #[.val (.int p0), .val (.int p1), .val (.int p2), .val (.int p3), .val (.int p4), .val (.int p5), .val (.int d0), .val (.int d1), .val (.int d2), .val (.int c0), .val (.int c1), .val (.int c2), .val (.int ve), .val (.int c0), .val (.int s2), .val (.int s3), .val (.int base), .val (.ref bz2), .val (.ref bz23), .val (.int (p2 &&& (7 : Int32))), .val (.int q), .val (.ref rb103), .val (.ref rb112), .val (.int (0 : Int32)), .val (.int c0), .val (.int (c0 - (0 : Int32)))] [(.ref rb103)]))
      have qz122 := own_alen X112 hx hZ rfl Af_120 (g := (mkF m 481 #[.val (.int p0), .val (.int p1), .val (.int p2), .val (.int p3), .val (.int p4), .val (.int p5), .val (.int d0), .val (.int d1), .val (.int d2), .val (.int c0), .val (.int c1), .val (.int c2), .val (.int ve), .val (.int c0), .val (.int s2), .val (.int s3), .val (.int base), .val (.ref bz2), .val (.ref bz23), .val (.int (p2 &&& (7 : Int32))), .val (.int q), .val (.ref rb103), .val (.ref rb112), .val (.int (0 : Int32)), .val (.int c0), .val (.int (c0 - (0 : Int32)))] [(.ref rb103)])) rfl rfl (hb hby at_481)
      refine OGo.st qz122 ?_
      show OGo p.tables e below _ (T112.setTop (mkF m 482 #[.val (.int p0), .val (.int p1), .val (.int p2), .val (.int p3), .val (.int p4), .val (.int p5), .val (.int d0), .val (.int d1), .val (.int d2), .val (.int c0), .val (.int c1), .val (.int c2), .val (.int ve), .val (.int c0), .val (.int s2), .val (.int s3), .val (.int base), .val (.ref bz2), .val (.ref bz23), .val (.int (p2 &&& (7 : Int32))), .val (.int q), .val (.ref rb103), .val (.ref rb112), .val (.int (0 : Int32)), .val (.int c0), .val (.int (c0 - (0 : Int32)))] [(.int (c0 - (0 : Int32)))]))
      refine OGo.st (fun _ k_ => XS.iload X112.here hx rfl (hb hby at_482) rfl k_) ?_
      show OGo p.tables e below _ (T112.setTop (mkF m 484 #[.val (.int p0), .val (.int p1), .val (.int p2), .val (.int p3), .val (.int p4), .val (.int p5), .val (.int d0), .val (.int d1), .val (.int d2), .val (.int c0), .val (.int c1), .val (.int c2), .val (.int ve), .val (.int c0), .val (.int s2), .val (.int s3), .val (.int base), .val (.ref bz2), .val (.ref bz23), .val (.int (p2 &&& (7 : Int32))), .val (.int q), .val (.ref rb103), .val (.ref rb112), .val (.int (0 : Int32)), .val (.int c0), .val (.int (c0 - (0 : Int32)))] [(.int (c0 - (0 : Int32))), (.int (c0 - (0 : Int32)))]))
      refine OGo.st (fun _ k_ => XS.icmpNo X112.here hx rfl (hb hby at_484) rfl (XT.ii_ne_f rfl) k_) ?_
      show OGo p.tables e below _ (T112.setTop (mkF m 487 #[.val (.int p0), .val (.int p1), .val (.int p2), .val (.int p3), .val (.int p4), .val (.int p5), .val (.int d0), .val (.int d1), .val (.int d2), .val (.int c0), .val (.int c1), .val (.int c2), .val (.int ve), .val (.int c0), .val (.int s2), .val (.int s3), .val (.int base), .val (.ref bz2), .val (.ref bz23), .val (.int (p2 &&& (7 : Int32))), .val (.int q), .val (.ref rb103), .val (.ref rb112), .val (.int (0 : Int32)), .val (.int c0), .val (.int (c0 - (0 : Int32)))] []))
      refine OGo.st (fun _ k_ => XS.aload X112.here hx rfl (hb hby at_487) rfl rfl k_) ?_
      show OGo p.tables e below _ (T112.setTop (mkF m 489 #[.val (.int p0), .val (.int p1), .val (.int p2), .val (.int p3), .val (.int p4), .val (.int p5), .val (.int d0), .val (.int d1), .val (.int d2), .val (.int c0), .val (.int c1), .val (.int c2), .val (.int ve), .val (.int c0), .val (.int s2), .val (.int s3), .val (.int base), .val (.ref bz2), .val (.ref bz23), .val (.int (p2 &&& (7 : Int32))), .val (.int q), .val (.ref rb103), .val (.ref rb112), .val (.int (0 : Int32)), .val (.int c0), .val (.int (c0 - (0 : Int32)))] [(.ref rb112)]))
      have qz123 := own_alen X112 hx hZ rfl Ar112 (g := (mkF m 489 #[.val (.int p0), .val (.int p1), .val (.int p2), .val (.int p3), .val (.int p4), .val (.int p5), .val (.int d0), .val (.int d1), .val (.int d2), .val (.int c0), .val (.int c1), .val (.int c2), .val (.int ve), .val (.int c0), .val (.int s2), .val (.int s3), .val (.int base), .val (.ref bz2), .val (.ref bz23), .val (.int (p2 &&& (7 : Int32))), .val (.int q), .val (.ref rb103), .val (.ref rb112), .val (.int (0 : Int32)), .val (.int c0), .val (.int (c0 - (0 : Int32)))] [(.ref rb112)])) rfl rfl (hb hby at_489)
      refine OGo.st qz123 ?_
      show OGo p.tables e below _ (T112.setTop (mkF m 490 #[.val (.int p0), .val (.int p1), .val (.int p2), .val (.int p3), .val (.int p4), .val (.int p5), .val (.int d0), .val (.int d1), .val (.int d2), .val (.int c0), .val (.int c1), .val (.int c2), .val (.int ve), .val (.int c0), .val (.int s2), .val (.int s3), .val (.int base), .val (.ref bz2), .val (.ref bz23), .val (.int (p2 &&& (7 : Int32))), .val (.int q), .val (.ref rb103), .val (.ref rb112), .val (.int (0 : Int32)), .val (.int c0), .val (.int (c0 - (0 : Int32)))] [(.int (c0 - (0 : Int32)))]))
      refine OGo.st (fun _ k_ => XS.iload X112.here hx rfl (hb hby at_490) rfl k_) ?_
      show OGo p.tables e below _ (T112.setTop (mkF m 492 #[.val (.int p0), .val (.int p1), .val (.int p2), .val (.int p3), .val (.int p4), .val (.int p5), .val (.int d0), .val (.int d1), .val (.int d2), .val (.int c0), .val (.int c1), .val (.int c2), .val (.int ve), .val (.int c0), .val (.int s2), .val (.int s3), .val (.int base), .val (.ref bz2), .val (.ref bz23), .val (.int (p2 &&& (7 : Int32))), .val (.int q), .val (.ref rb103), .val (.ref rb112), .val (.int (0 : Int32)), .val (.int c0), .val (.int (c0 - (0 : Int32)))] [(.int (c0 - (0 : Int32))), (.int (c0 - (0 : Int32)))]))
      refine OGo.st (fun _ k_ => XS.icmpYes X112.here hx rfl (pc0 := 492) (pc' := 497) rfl (hb hby at_492) rfl (XT.ii_eq_t rfl) (by decide) (by decide) k_) ?_
      show OGo p.tables e below _ (T112.setTop (mkF m 497 #[.val (.int p0), .val (.int p1), .val (.int p2), .val (.int p3), .val (.int p4), .val (.int p5), .val (.int d0), .val (.int d1), .val (.int d2), .val (.int c0), .val (.int c1), .val (.int c2), .val (.int ve), .val (.int c0), .val (.int s2), .val (.int s3), .val (.int base), .val (.ref bz2), .val (.ref bz23), .val (.int (p2 &&& (7 : Int32))), .val (.int q), .val (.ref rb103), .val (.ref rb112), .val (.int (0 : Int32)), .val (.int c0), .val (.int (c0 - (0 : Int32)))] []))
      refine OGo.st (fun _ k_ => XS.aload X112.here hx rfl (hb hby at_497) rfl rfl k_) ?_
      show OGo p.tables e below _ (T112.setTop (mkF m 499 #[.val (.int p0), .val (.int p1), .val (.int p2), .val (.int p3), .val (.int p4), .val (.int p5), .val (.int d0), .val (.int d1), .val (.int d2), .val (.int c0), .val (.int c1), .val (.int c2), .val (.int ve), .val (.int c0), .val (.int s2), .val (.int s3), .val (.int base), .val (.ref bz2), .val (.ref bz23), .val (.int (p2 &&& (7 : Int32))), .val (.int q), .val (.ref rb103), .val (.ref rb112), .val (.int (0 : Int32)), .val (.int c0), .val (.int (c0 - (0 : Int32)))] [(.ref rb103)]))
      refine OGo.st (fun _ k_ => XS.aload X112.here hx rfl (hb hby at_499) rfl rfl k_) ?_
      show OGo p.tables e below _ (T112.setTop (mkF m 501 #[.val (.int p0), .val (.int p1), .val (.int p2), .val (.int p3), .val (.int p4), .val (.int p5), .val (.int d0), .val (.int d1), .val (.int d2), .val (.int c0), .val (.int c1), .val (.int c2), .val (.int ve), .val (.int c0), .val (.int s2), .val (.int s3), .val (.int base), .val (.ref bz2), .val (.ref bz23), .val (.int (p2 &&& (7 : Int32))), .val (.int q), .val (.ref rb103), .val (.ref rb112), .val (.int (0 : Int32)), .val (.int c0), .val (.int (c0 - (0 : Int32)))] [(.ref bz2), (.ref rb103)]))
      refine OGo.st (fun _ k_ => XS.iload X112.here hx rfl (hb hby at_501) rfl k_) ?_
      show OGo p.tables e below _ (T112.setTop (mkF m 503 #[.val (.int p0), .val (.int p1), .val (.int p2), .val (.int p3), .val (.int p4), .val (.int p5), .val (.int d0), .val (.int d1), .val (.int d2), .val (.int c0), .val (.int c1), .val (.int c2), .val (.int ve), .val (.int c0), .val (.int s2), .val (.int s3), .val (.int base), .val (.ref bz2), .val (.ref bz23), .val (.int (p2 &&& (7 : Int32))), .val (.int q), .val (.ref rb103), .val (.ref rb112), .val (.int (0 : Int32)), .val (.int c0), .val (.int (c0 - (0 : Int32)))] [(.int (0 : Int32)), (.ref bz2), (.ref rb103)]))
      refine OGo.st (fun _ k_ => XS.iload X112.here hx rfl (hb hby at_503) rfl k_) ?_
      show OGo p.tables e below _ (T112.setTop (mkF m 505 #[.val (.int p0), .val (.int p1), .val (.int p2), .val (.int p3), .val (.int p4), .val (.int p5), .val (.int d0), .val (.int d1), .val (.int d2), .val (.int c0), .val (.int c1), .val (.int c2), .val (.int ve), .val (.int c0), .val (.int s2), .val (.int s3), .val (.int base), .val (.ref bz2), .val (.ref bz23), .val (.int (p2 &&& (7 : Int32))), .val (.int q), .val (.ref rb103), .val (.ref rb112), .val (.int (0 : Int32)), .val (.int c0), .val (.int (c0 - (0 : Int32)))] [(.int (c0 - (0 : Int32))), (.int (0 : Int32)), (.ref bz2), (.ref rb103)]))
      obtain ⟨_, _, ⟨T124, Lz124, kz124, nz124⟩, -, X124, ⟨Lc124, hQ124, lz124, yz124, zz124⟩, st124⟩ := Jvm.LawKit.callS X112 hx (y := (⟨"com/example/cari/cari/index/PositionsInPinLaw", "same", "([I[III)Z"⟩ : MethodName)) hown (mvT hZ (hw _ (List.mem_of_getElem? (i := 46) rfl))) (mvT hZ (hw _ (List.mem_of_getElem? (i := 47) rfl))) (mvT hZ (hw _ (List.mem_of_getElem? (i := 48) rfl))) (mvT hZ (hw _ (List.mem_of_getElem? (i := 49) rfl))) (by decide) (backOf (W := 0) (rm15 l Z a0 hw [] rb103 bz2 (0 : Int32) (c0 - (0 : Int32)) kr103 kz2 (own_9 base) (fun i => own_P (own_9 base) ((0 : Int32).toNatClampNeg + i)) T112.heap n0 (Nat.le_trans Z0 K_121.1) Af_120 Af_113 (fun _ _ => rfl) (own_ok9 hs.1)) hZ (hw _ (List.mem_of_getElem? (i := 49) rfl)) (hw _ (List.mem_of_getElem? (i := 48) rfl)) (by decide) (by decide)) (g := (mkF m 505 #[.val (.int p0), .val (.int p1), .val (.int p2), .val (.int p3), .val (.int p4), .val (.int p5), .val (.int d0), .val (.int d1), .val (.int d2), .val (.int c0), .val (.int c1), .val (.int c2), .val (.int ve), .val (.int c0), .val (.int s2), .val (.int s3), .val (.int base), .val (.ref bz2), .val (.ref bz23), .val (.int (p2 &&& (7 : Int32))), .val (.int q), .val (.ref rb103), .val (.ref rb112), .val (.int (0 : Int32)), .val (.int c0), .val (.int (c0 - (0 : Int32)))] [(.int (c0 - (0 : Int32))), (.int (0 : Int32)), (.ref bz2), (.ref rb103)])) rfl (by rw [hml]; rfl) (argsL := [(.ref rb103), (.ref bz2), (.int (0 : Int32)), (.int (c0 - (0 : Int32)))]) (rest := []) (lenOf own_pd7 rfl) rfl (by show 2 * 0 + _ ≤ _; exact Nat.le_of_eq rfl) (hb hby at_505) (fun _ _ => ⟨rfl, rfl, (by decide : 6 + 0 ≤ _), (by decide : 25 + 0 ≤ _)⟩)
      dsimp only [Pt.U, Pt.locs, Pt.cells, Pt.slots] at X124 lz124 yz124 zz124 st124 hQ124
      have X124 := own_reb X124 lz124 yz124 zz124
      have X124 : Stand p l e room_1 s m #[(.int p0), (.int p1), (.int p2), (.int p3), (.int p4), (.int p5)] below meth c T124 _ 6 25 := X124
      obtain ⟨hvq124, Nq124, ez124⟩ := hQ124
      rw [hvq124] at st124
      have N124 := Fr.app N112 Nq124
      refine OGo.st st124 ?_
      show OGo p.tables e below _ (T124.setTop (mkF m 508 #[.val (.int p0), .val (.int p1), .val (.int p2), .val (.int p3), .val (.int p4), .val (.int p5), .val (.int d0), .val (.int d1), .val (.int d2), .val (.int c0), .val (.int c1), .val (.int c2), .val (.int ve), .val (.int c0), .val (.int s2), .val (.int s3), .val (.int base), .val (.ref bz2), .val (.ref bz23), .val (.int (p2 &&& (7 : Int32))), .val (.int q), .val (.ref rb103), .val (.ref rb112), .val (.int (0 : Int32)), .val (.int c0), .val (.int (c0 - (0 : Int32)))] [(.int (1 : Int32))]))
      refine OGo.st (fun _ k_ => XS.ifNo X124.here hx rfl (hb hby at_508) rfl (XT.i0_eq_f (by decide)) k_) ?_
      show OGo p.tables e below _ (T124.setTop (mkF m 511 #[.val (.int p0), .val (.int p1), .val (.int p2), .val (.int p3), .val (.int p4), .val (.int p5), .val (.int d0), .val (.int d1), .val (.int d2), .val (.int c0), .val (.int c1), .val (.int c2), .val (.int ve), .val (.int c0), .val (.int s2), .val (.int s3), .val (.int base), .val (.ref bz2), .val (.ref bz23), .val (.int (p2 &&& (7 : Int32))), .val (.int q), .val (.ref rb103), .val (.ref rb112), .val (.int (0 : Int32)), .val (.int c0), .val (.int (c0 - (0 : Int32)))] []))
      refine OGo.st (fun _ k_ => XS.aload X124.here hx rfl (hb hby at_511) rfl rfl k_) ?_
      show OGo p.tables e below _ (T124.setTop (mkF m 513 #[.val (.int p0), .val (.int p1), .val (.int p2), .val (.int p3), .val (.int p4), .val (.int p5), .val (.int d0), .val (.int d1), .val (.int d2), .val (.int c0), .val (.int c1), .val (.int c2), .val (.int ve), .val (.int c0), .val (.int s2), .val (.int s3), .val (.int base), .val (.ref bz2), .val (.ref bz23), .val (.int (p2 &&& (7 : Int32))), .val (.int q), .val (.ref rb103), .val (.ref rb112), .val (.int (0 : Int32)), .val (.int c0), .val (.int (c0 - (0 : Int32)))] [(.ref rb112)]))
      refine OGo.st (fun _ k_ => XS.aload X124.here hx rfl (hb hby at_513) rfl rfl k_) ?_
      show OGo p.tables e below _ (T124.setTop (mkF m 515 #[.val (.int p0), .val (.int p1), .val (.int p2), .val (.int p3), .val (.int p4), .val (.int p5), .val (.int d0), .val (.int d1), .val (.int d2), .val (.int c0), .val (.int c1), .val (.int c2), .val (.int ve), .val (.int c0), .val (.int s2), .val (.int s3), .val (.int base), .val (.ref bz2), .val (.ref bz23), .val (.int (p2 &&& (7 : Int32))), .val (.int q), .val (.ref rb103), .val (.ref rb112), .val (.int (0 : Int32)), .val (.int c0), .val (.int (c0 - (0 : Int32)))] [(.ref bz2), (.ref rb112)]))
      refine OGo.st (fun _ k_ => XS.iload X124.here hx rfl (hb hby at_515) rfl k_) ?_
      show OGo p.tables e below _ (T124.setTop (mkF m 517 #[.val (.int p0), .val (.int p1), .val (.int p2), .val (.int p3), .val (.int p4), .val (.int p5), .val (.int d0), .val (.int d1), .val (.int d2), .val (.int c0), .val (.int c1), .val (.int c2), .val (.int ve), .val (.int c0), .val (.int s2), .val (.int s3), .val (.int base), .val (.ref bz2), .val (.ref bz23), .val (.int (p2 &&& (7 : Int32))), .val (.int q), .val (.ref rb103), .val (.ref rb112), .val (.int (0 : Int32)), .val (.int c0), .val (.int (c0 - (0 : Int32)))] [(.int (0 : Int32)), (.ref bz2), (.ref rb112)]))
      refine OGo.st (fun _ k_ => XS.iload X124.here hx rfl (hb hby at_517) rfl k_) ?_
      show OGo p.tables e below _ (T124.setTop (mkF m 519 #[.val (.int p0), .val (.int p1), .val (.int p2), .val (.int p3), .val (.int p4), .val (.int p5), .val (.int d0), .val (.int d1), .val (.int d2), .val (.int c0), .val (.int c1), .val (.int c2), .val (.int ve), .val (.int c0), .val (.int s2), .val (.int s3), .val (.int base), .val (.ref bz2), .val (.ref bz23), .val (.int (p2 &&& (7 : Int32))), .val (.int q), .val (.ref rb103), .val (.ref rb112), .val (.int (0 : Int32)), .val (.int c0), .val (.int (c0 - (0 : Int32)))] [(.int (c0 - (0 : Int32))), (.int (0 : Int32)), (.ref bz2), (.ref rb112)]))
      obtain ⟨_, _, ⟨T125, Lz125, kz125, nz125⟩, -, X125, ⟨Lc125, hQ125, lz125, yz125, zz125⟩, st125⟩ := Jvm.LawKit.callS X124 hx (y := (⟨"com/example/cari/cari/index/PositionsInPinLaw", "same", "([I[III)Z"⟩ : MethodName)) hown (mvT hZ (hw _ (List.mem_of_getElem? (i := 46) rfl))) (mvT hZ (hw _ (List.mem_of_getElem? (i := 47) rfl))) (mvT hZ (hw _ (List.mem_of_getElem? (i := 48) rfl))) (mvT hZ (hw _ (List.mem_of_getElem? (i := 49) rfl))) (by decide) (backOf (W := 0) (rm15 l Z a0 hw [] rb112 bz2 (0 : Int32) (c0 - (0 : Int32)) kr112 kz2 (own_9 base) (fun i => own_P (own_9 base) ((0 : Int32).toNatClampNeg + i)) T112.heap n0 (Nat.le_trans Z0 K_121.1) Ar112 Af_113 (fun _ _ => rfl) (own_ok9 hs.1)) hZ (hw _ (List.mem_of_getElem? (i := 49) rfl)) (hw _ (List.mem_of_getElem? (i := 48) rfl)) (by decide) (by decide)) (g := (mkF m 519 #[.val (.int p0), .val (.int p1), .val (.int p2), .val (.int p3), .val (.int p4), .val (.int p5), .val (.int d0), .val (.int d1), .val (.int d2), .val (.int c0), .val (.int c1), .val (.int c2), .val (.int ve), .val (.int c0), .val (.int s2), .val (.int s3), .val (.int base), .val (.ref bz2), .val (.ref bz23), .val (.int (p2 &&& (7 : Int32))), .val (.int q), .val (.ref rb103), .val (.ref rb112), .val (.int (0 : Int32)), .val (.int c0), .val (.int (c0 - (0 : Int32)))] [(.int (c0 - (0 : Int32))), (.int (0 : Int32)), (.ref bz2), (.ref rb112)])) rfl (by rw [hml]; rfl) (argsL := [(.ref rb112), (.ref bz2), (.int (0 : Int32)), (.int (c0 - (0 : Int32)))]) (rest := []) (lenOf own_pd7 rfl) rfl (by show 2 * 0 + _ ≤ _; exact Nat.le_of_eq rfl) (hb hby at_519) (fun _ _ => ⟨rfl, ez124, (by decide : 6 + 0 ≤ _), (by decide : 25 + 0 ≤ _)⟩)
      dsimp only [Pt.U, Pt.locs, Pt.cells, Pt.slots] at X125 lz125 yz125 zz125 st125 hQ125
      have X125 := own_reb X125 lz125 yz125 zz125
      have X125 : Stand p l e room_1 s m #[(.int p0), (.int p1), (.int p2), (.int p3), (.int p4), (.int p5)] below meth c T125 _ 6 25 := X125
      obtain ⟨hvq125, Nq125, ez125⟩ := hQ125
      rw [hvq125] at st125
      have N125 := Fr.app N124 Nq125
      refine OGo.st st125 ?_
      show OGo p.tables e below _ (T125.setTop (mkF m 522 #[.val (.int p0), .val (.int p1), .val (.int p2), .val (.int p3), .val (.int p4), .val (.int p5), .val (.int d0), .val (.int d1), .val (.int d2), .val (.int c0), .val (.int c1), .val (.int c2), .val (.int ve), .val (.int c0), .val (.int s2), .val (.int s3), .val (.int base), .val (.ref bz2), .val (.ref bz23), .val (.int (p2 &&& (7 : Int32))), .val (.int q), .val (.ref rb103), .val (.ref rb112), .val (.int (0 : Int32)), .val (.int c0), .val (.int (c0 - (0 : Int32)))] [(.int (1 : Int32))]))
      refine OGo.st (fun _ k_ => XS.ifNo X125.here hx rfl (hb hby at_522) rfl (XT.i0_eq_f (by decide)) k_) ?_
      show OGo p.tables e below _ (T125.setTop (mkF m 525 #[.val (.int p0), .val (.int p1), .val (.int p2), .val (.int p3), .val (.int p4), .val (.int p5), .val (.int d0), .val (.int d1), .val (.int d2), .val (.int c0), .val (.int c1), .val (.int c2), .val (.int ve), .val (.int c0), .val (.int s2), .val (.int s3), .val (.int base), .val (.ref bz2), .val (.ref bz23), .val (.int (p2 &&& (7 : Int32))), .val (.int q), .val (.ref rb103), .val (.ref rb112), .val (.int (0 : Int32)), .val (.int c0), .val (.int (c0 - (0 : Int32)))] []))
      refine OGo.st (fun _ k_ => XS.iconst X125.here hx rfl (hb hby at_525) k_) ?_
      show OGo p.tables e below _ (T125.setTop (mkF m 526 #[.val (.int p0), .val (.int p1), .val (.int p2), .val (.int p3), .val (.int p4), .val (.int p5), .val (.int d0), .val (.int d1), .val (.int d2), .val (.int c0), .val (.int c1), .val (.int c2), .val (.int ve), .val (.int c0), .val (.int s2), .val (.int s3), .val (.int base), .val (.ref bz2), .val (.ref bz23), .val (.int (p2 &&& (7 : Int32))), .val (.int q), .val (.ref rb103), .val (.ref rb112), .val (.int (0 : Int32)), .val (.int c0), .val (.int (c0 - (0 : Int32)))] [(.int (1 : Int32))]))
      refine OGo.st (fun _ k_ => XS.goto X125.here hx rfl (pc0 := 526) (pc' := 530) rfl (hb hby at_526) (by decide) (by decide) k_) ?_
      show OGo p.tables e below _ (T125.setTop (mkF m 530 #[.val (.int p0), .val (.int p1), .val (.int p2), .val (.int p3), .val (.int p4), .val (.int p5), .val (.int d0), .val (.int d1), .val (.int d2), .val (.int c0), .val (.int c1), .val (.int c2), .val (.int ve), .val (.int c0), .val (.int s2), .val (.int s3), .val (.int base), .val (.ref bz2), .val (.ref bz23), .val (.int (p2 &&& (7 : Int32))), .val (.int q), .val (.ref rb103), .val (.ref rb112), .val (.int (0 : Int32)), .val (.int c0), .val (.int (c0 - (0 : Int32)))] [(.int (1 : Int32))]))
      refine OGo.fin X125 (v := some (.int (1 : Int32))) (fun h => by rw [Bd.returns] at h; cases h) hlk (fun fs hr => X125.ireturnOut hx Bd.returns rfl (by simp) (hb hby at_530) hr) ?_ (by decide) (by decide)
      show own_Q_rm0 Z p0 p1 p2 p3 p4 p5 h0 n0 _ T125.heap _
      rw [ez125]
      exact ⟨rfl, N125⟩
    · by_cases e1_ : q = d1
      · skip
        show OGo p.tables e below _ (T96.setTop (mkF m 367 #[.val (.int p0), .val (.int p1), .val (.int p2), .val (.int p3), .val (.int p4), .val (.int p5), .val (.int d0), .val (.int d1), .val (.int d2), .val (.int c0), .val (.int c1), .val (.int c2), .val (.int ve), .val (.int c0), .val (.int s2), .val (.int s3), .val (.int base), .val (.ref bz2), .val (.ref bz23), .val (.int (p2 &&& (7 : Int32))), .val (.int q), .unset, .unset, .unset, .unset, .unset] []))
        refine OGo.st (fun _ k_ => XS.aload X96.here hx rfl (hb hby at_367) rfl rfl k_) ?_
        show OGo p.tables e below _ (T96.setTop (mkF m 369 #[.val (.int p0), .val (.int p1), .val (.int p2), .val (.int p3), .val (.int p4), .val (.int p5), .val (.int d0), .val (.int d1), .val (.int d2), .val (.int c0), .val (.int c1), .val (.int c2), .val (.int ve), .val (.int c0), .val (.int s2), .val (.int s3), .val (.int base), .val (.ref bz2), .val (.ref bz23), .val (.int (p2 &&& (7 : Int32))), .val (.int q), .unset, .unset, .unset, .unset, .unset] [(.ref bz23)]))
        refine OGo.st (fun _ k_ => XS.iload X96.here hx rfl (hb hby at_369) rfl k_) ?_
        show OGo p.tables e below _ (T96.setTop (mkF m 371 #[.val (.int p0), .val (.int p1), .val (.int p2), .val (.int p3), .val (.int p4), .val (.int p5), .val (.int d0), .val (.int d1), .val (.int d2), .val (.int c0), .val (.int c1), .val (.int c2), .val (.int ve), .val (.int c0), .val (.int s2), .val (.int s3), .val (.int base), .val (.ref bz2), .val (.ref bz23), .val (.int (p2 &&& (7 : Int32))), .val (.int q), .unset, .unset, .unset, .unset, .unset] [(.int q), (.ref bz23)]))
        obtain ⟨cq126, kqz126, qz126a, qz126b, qz126c⟩ := isOf hZ rfl Ex_98
        obtain ⟨_, _, ⟨T126, Lz126, kz126, nz126⟩, -, X126, ⟨Lc126, hQ126, lz126, yz126, zz126⟩, st126⟩ := X96.virtualBack hx (y := (⟨"com/example/cari/cari/index/Positions", "in", "(I)[I"⟩ : MethodName)) (z := (⟨"com/example/cari/cari/index/Positions", "in", "(I)[I"⟩ : MethodName)) hown (mvT hZ (hw _ (List.mem_of_getElem? (i := 17) rfl))) (mvT hZ (hw _ (List.mem_of_getElem? (i := 18) rfl))) (notFace_of_selects (args := #[]) (mvT hZ (hw _ (List.mem_of_getElem? (i := 20) rfl)))) (mvT hZ (hw _ (List.mem_of_getElem? (i := 20) rfl))) (mvT hZ (hw _ (List.mem_of_getElem? (i := 19) rfl))) (by decide) (backOf (W := 0) (rm11 l Z a0 hw [] bz23 q bz26 bz55 bz2 kz26 kz55 kz2 d0 d1 d2 c0 s2 s3 (own_9 base) T96.heap n0 (Nat.le_trans Z0 K_101.1) qz96_0 qz96_1 qz96_2 Af_99 Af_100 Af_97 (own_b1 hd e1_) hs.2.1) hZ (hw _ (List.mem_of_getElem? (i := 21) rfl)) (hw _ (List.mem_of_getElem? (i := 4) rfl)) (by decide) (by decide)) qz126a qz126c (g := (mkF m 371 #[.val (.int p0), .val (.int p1), .val (.int p2), .val (.int p3), .val (.int p4), .val (.int p5), .val (.int d0), .val (.int d1), .val (.int d2), .val (.int c0), .val (.int c1), .val (.int c2), .val (.int ve), .val (.int c0), .val (.int s2), .val (.int s3), .val (.int base), .val (.ref bz2), .val (.ref bz23), .val (.int (p2 &&& (7 : Int32))), .val (.int q), .unset, .unset, .unset, .unset, .unset] [(.int q), (.ref bz23)])) rfl (by rw [hml]; rfl) (Steps.refl _) (argsL := [(.int q)]) (rest := []) (lenOf own_pd6 rfl) rfl (by show 2 * 0 + _ ≤ _; exact Nat.le_of_eq rfl) (hb hby at_371) (fun _ _ => ⟨rfl, rfl, (by decide : 4 + 1 ≤ _), (by decide : 19 + 3 ≤ _)⟩)
        dsimp only [Pt.U, Pt.locs, Pt.cells, Pt.slots] at X126 lz126 yz126 zz126 st126 hQ126
        have X126 := own_reb X126 lz126 yz126 zz126
        have X126 : Stand p l e room_1 s m #[(.int p0), (.int p1), (.int p2), (.int p3), (.int p4), (.int p5)] below meth c T126 _ 5 22 := X126
        obtain ⟨rb126, kr126, rfl, Nq126, Kq126, szr126, Ar126⟩ := hQ126
        have N126 := Fr.app N96 Nq126
        have ne_bz2_rb126 : bz2 ≠ rb126 := Nat.ne_of_lt (Nat.lt_of_lt_of_le Af_97.lt szr126)
        have ne_bz23_rb126 : bz23 ≠ rb126 := Nat.ne_of_lt (Nat.lt_of_lt_of_le Ex_98.lt szr126)
        have ne_bz26_rb126 : bz26 ≠ rb126 := Nat.ne_of_lt (Nat.lt_of_lt_of_le Af_99.lt szr126)
        have ne_bz55_rb126 : bz55 ≠ rb126 := Nat.ne_of_lt (Nat.lt_of_lt_of_le Af_100.lt szr126)
        have g_rb126 : n0 ≤ rb126 := Nat.le_trans (Nat.le_trans Z0 K_101.1) szr126
        have sz_rb126 : h0.size ≤ rb126 := Nat.le_trans K_101.1 szr126
        have Af_127 := Af_97.keep Kq126 nin0
        have Ex_128 := Ex_98.keep Kq126
        have Af_129 := Af_99.keep Kq126 nin0
        have Af_130 := Af_100.keep Kq126 nin0
        have F_131 := qz96_0.keep Kq126 nin0
        have F_132 := qz96_1.keep Kq126 nin0
        have F_133 := qz96_2.keep Kq126 nin0
        have K_134 : Keep h0 T126.heap [] := K_101.trans Kq126 all0
        refine OGo.tr st126 ?_
        show OGo p.tables e below _ (T126.setTop (mkF m 374 #[.val (.int p0), .val (.int p1), .val (.int p2), .val (.int p3), .val (.int p4), .val (.int p5), .val (.int d0), .val (.int d1), .val (.int d2), .val (.int c0), .val (.int c1), .val (.int c2), .val (.int ve), .val (.int c0), .val (.int s2), .val (.int s3), .val (.int base), .val (.ref bz2), .val (.ref bz23), .val (.int (p2 &&& (7 : Int32))), .val (.int q), .unset, .unset, .unset, .unset, .unset] [(.ref rb126)]))
        refine OGo.st (fun _ k_ => XS.astore X126.here hx rfl (hb hby at_374) rfl rfl (l' := #[.val (.int p0), .val (.int p1), .val (.int p2), .val (.int p3), .val (.int p4), .val (.int p5), .val (.int d0), .val (.int d1), .val (.int d2), .val (.int c0), .val (.int c1), .val (.int c2), .val (.int ve), .val (.int c0), .val (.int s2), .val (.int s3), .val (.int base), .val (.ref bz2), .val (.ref bz23), .val (.int (p2 &&& (7 : Int32))), .val (.int q), .val (.ref rb126), .unset, .unset, .unset, .unset]) rfl k_) ?_
        show OGo p.tables e below _ (T126.setTop (mkF m 376 #[.val (.int p0), .val (.int p1), .val (.int p2), .val (.int p3), .val (.int p4), .val (.int p5), .val (.int d0), .val (.int d1), .val (.int d2), .val (.int c0), .val (.int c1), .val (.int c2), .val (.int ve), .val (.int c0), .val (.int s2), .val (.int s3), .val (.int base), .val (.ref bz2), .val (.ref bz23), .val (.int (p2 &&& (7 : Int32))), .val (.int q), .val (.ref rb126), .unset, .unset, .unset, .unset] []))
        refine OGo.st (fun _ k_ => XS.aload X126.here hx rfl (hb hby at_376) rfl rfl k_) ?_
        show OGo p.tables e below _ (T126.setTop (mkF m 378 #[.val (.int p0), .val (.int p1), .val (.int p2), .val (.int p3), .val (.int p4), .val (.int p5), .val (.int d0), .val (.int d1), .val (.int d2), .val (.int c0), .val (.int c1), .val (.int c2), .val (.int ve), .val (.int c0), .val (.int s2), .val (.int s3), .val (.int base), .val (.ref bz2), .val (.ref bz23), .val (.int (p2 &&& (7 : Int32))), .val (.int q), .val (.ref rb126), .unset, .unset, .unset, .unset] [(.ref bz23)]))
        refine OGo.st (fun _ k_ => XS.iload X126.here hx rfl (hb hby at_378) rfl k_) ?_
        show OGo p.tables e below _ (T126.setTop (mkF m 380 #[.val (.int p0), .val (.int p1), .val (.int p2), .val (.int p3), .val (.int p4), .val (.int p5), .val (.int d0), .val (.int d1), .val (.int d2), .val (.int c0), .val (.int c1), .val (.int c2), .val (.int ve), .val (.int c0), .val (.int s2), .val (.int s3), .val (.int base), .val (.ref bz2), .val (.ref bz23), .val (.int (p2 &&& (7 : Int32))), .val (.int q), .val (.ref rb126), .unset, .unset, .unset, .unset] [(.int q), (.ref bz23)]))
        obtain ⟨cq135, kqz135, qz135a, qz135b, qz135c⟩ := isOf hZ rfl Ex_128
        obtain ⟨_, _, ⟨T135, Lz135, kz135, nz135⟩, -, X135, ⟨Lc135, hQ135, lz135, yz135, zz135⟩, st135⟩ := X126.virtualBack hx (y := (⟨"com/example/cari/cari/index/Positions", "in", "(I)[I"⟩ : MethodName)) (z := (⟨"com/example/cari/cari/index/Positions", "in", "(I)[I"⟩ : MethodName)) hown (mvT hZ (hw _ (List.mem_of_getElem? (i := 17) rfl))) (mvT hZ (hw _ (List.mem_of_getElem? (i := 18) rfl))) (notFace_of_selects (args := #[]) (mvT hZ (hw _ (List.mem_of_getElem? (i := 20) rfl)))) (mvT hZ (hw _ (List.mem_of_getElem? (i := 20) rfl))) (mvT hZ (hw _ (List.mem_of_getElem? (i := 19) rfl))) (by decide) (backOf (W := 0) (rm11 l Z a0 hw [] bz23 q bz26 bz55 bz2 kz26 kz55 kz2 d0 d1 d2 c0 s2 s3 (own_9 base) T126.heap n0 (Nat.le_trans Z0 K_134.1) F_131 F_132 F_133 Af_129 Af_130 Af_127 (own_b1 hd e1_) hs.2.1) hZ (hw _ (List.mem_of_getElem? (i := 21) rfl)) (hw _ (List.mem_of_getElem? (i := 4) rfl)) (by decide) (by decide)) qz135a qz135c (g := (mkF m 380 #[.val (.int p0), .val (.int p1), .val (.int p2), .val (.int p3), .val (.int p4), .val (.int p5), .val (.int d0), .val (.int d1), .val (.int d2), .val (.int c0), .val (.int c1), .val (.int c2), .val (.int ve), .val (.int c0), .val (.int s2), .val (.int s3), .val (.int base), .val (.ref bz2), .val (.ref bz23), .val (.int (p2 &&& (7 : Int32))), .val (.int q), .val (.ref rb126), .unset, .unset, .unset, .unset] [(.int q), (.ref bz23)])) rfl (by rw [hml]; rfl) (Steps.refl _) (argsL := [(.int q)]) (rest := []) (lenOf own_pd6 rfl) rfl (by show 2 * 0 + _ ≤ _; exact Nat.le_of_eq rfl) (hb hby at_380) (fun _ _ => ⟨rfl, rfl, (by decide : 5 + 1 ≤ _), (by decide : 22 + 3 ≤ _)⟩)
        dsimp only [Pt.U, Pt.locs, Pt.cells, Pt.slots] at X135 lz135 yz135 zz135 st135 hQ135
        have X135 := own_reb X135 lz135 yz135 zz135
        have X135 : Stand p l e room_1 s m #[(.int p0), (.int p1), (.int p2), (.int p3), (.int p4), (.int p5)] below meth c T135 _ 6 25 := X135
        obtain ⟨rb135, kr135, rfl, Nq135, Kq135, szr135, Ar135⟩ := hQ135
        have N135 := Fr.app N126 Nq135
        have ne_bz2_rb135 : bz2 ≠ rb135 := Nat.ne_of_lt (Nat.lt_of_lt_of_le Af_127.lt szr135)
        have ne_bz23_rb135 : bz23 ≠ rb135 := Nat.ne_of_lt (Nat.lt_of_lt_of_le Ex_128.lt szr135)
        have ne_bz26_rb135 : bz26 ≠ rb135 := Nat.ne_of_lt (Nat.lt_of_lt_of_le Af_129.lt szr135)
        have ne_bz55_rb135 : bz55 ≠ rb135 := Nat.ne_of_lt (Nat.lt_of_lt_of_le Af_130.lt szr135)
        have ne_rb126_rb135 : rb126 ≠ rb135 := Nat.ne_of_lt (Nat.lt_of_lt_of_le Ar126.lt szr135)
        have g_rb135 : n0 ≤ rb135 := Nat.le_trans (Nat.le_trans Z0 K_134.1) szr135
        have sz_rb135 : h0.size ≤ rb135 := Nat.le_trans K_134.1 szr135
        have Af_136 := Af_127.keep Kq135 nin0
        have Ex_137 := Ex_128.keep Kq135
        have Af_138 := Af_129.keep Kq135 nin0
        have Af_139 := Af_130.keep Kq135 nin0
        have F_140 := F_131.keep Kq135 nin0
        have F_141 := F_132.keep Kq135 nin0
        have F_142 := F_133.keep Kq135 nin0
        have Af_143 := Ar126.keep Kq135 nin0
        have K_144 : Keep h0 T135.heap [] := K_134.trans Kq135 all0
        refine OGo.tr st135 ?_
        show OGo p.tables e below _ (T135.setTop (mkF m 383 #[.val (.int p0), .val (.int p1), .val (.int p2), .val (.int p3), .val (.int p4), .val (.int p5), .val (.int d0), .val (.int d1), .val (.int d2), .val (.int c0), .val (.int c1), .val (.int c2), .val (.int ve), .val (.int c0), .val (.int s2), .val (.int s3), .val (.int base), .val (.ref bz2), .val (.ref bz23), .val (.int (p2 &&& (7 : Int32))), .val (.int q), .val (.ref rb126), .unset, .unset, .unset, .unset] [(.ref rb135)]))
        refine OGo.st (fun _ k_ => XS.astore X135.here hx rfl (hb hby at_383) rfl rfl (l' := #[.val (.int p0), .val (.int p1), .val (.int p2), .val (.int p3), .val (.int p4), .val (.int p5), .val (.int d0), .val (.int d1), .val (.int d2), .val (.int c0), .val (.int c1), .val (.int c2), .val (.int ve), .val (.int c0), .val (.int s2), .val (.int s3), .val (.int base), .val (.ref bz2), .val (.ref bz23), .val (.int (p2 &&& (7 : Int32))), .val (.int q), .val (.ref rb126), .val (.ref rb135), .unset, .unset, .unset]) rfl k_) ?_
        show OGo p.tables e below _ (T135.setTop (mkF m 385 #[.val (.int p0), .val (.int p1), .val (.int p2), .val (.int p3), .val (.int p4), .val (.int p5), .val (.int d0), .val (.int d1), .val (.int d2), .val (.int c0), .val (.int c1), .val (.int c2), .val (.int ve), .val (.int c0), .val (.int s2), .val (.int s3), .val (.int base), .val (.ref bz2), .val (.ref bz23), .val (.int (p2 &&& (7 : Int32))), .val (.int q), .val (.ref rb126), .val (.ref rb135), .unset, .unset, .unset] []))
        refine OGo.st (fun _ k_ => XS.iconst X135.here hx rfl (hb hby at_385) k_) ?_
        show OGo p.tables e below _ (T135.setTop (mkF m 386 #[.val (.int p0), .val (.int p1), .val (.int p2), .val (.int p3), .val (.int p4), .val (.int p5), .val (.int d0), .val (.int d1), .val (.int d2), .val (.int c0), .val (.int c1), .val (.int c2), .val (.int ve), .val (.int c0), .val (.int s2), .val (.int s3), .val (.int base), .val (.ref bz2), .val (.ref bz23), .val (.int (p2 &&& (7 : Int32))), .val (.int q), .val (.ref rb126), .val (.ref rb135), .unset, .unset, .unset] [(.int (0 : Int32))]))
        refine OGo.st (fun _ k_ => XS.istore X135.here hx rfl (hb hby at_386) rfl (l' := #[.val (.int p0), .val (.int p1), .val (.int p2), .val (.int p3), .val (.int p4), .val (.int p5), .val (.int d0), .val (.int d1), .val (.int d2), .val (.int c0), .val (.int c1), .val (.int c2), .val (.int ve), .val (.int c0), .val (.int s2), .val (.int s3), .val (.int base), .val (.ref bz2), .val (.ref bz23), .val (.int (p2 &&& (7 : Int32))), .val (.int q), .val (.ref rb126), .val (.ref rb135), .val (.int (0 : Int32)), .unset, .unset]) rfl k_) ?_
        show OGo p.tables e below _ (T135.setTop (mkF m 388 #[.val (.int p0), .val (.int p1), .val (.int p2), .val (.int p3), .val (.int p4), .val (.int p5), .val (.int d0), .val (.int d1), .val (.int d2), .val (.int c0), .val (.int c1), .val (.int c2), .val (.int ve), .val (.int c0), .val (.int s2), .val (.int s3), .val (.int base), .val (.ref bz2), .val (.ref bz23), .val (.int (p2 &&& (7 : Int32))), .val (.int q), .val (.ref rb126), .val (.ref rb135), .val (.int (0 : Int32)), .unset, .unset] []))
        refine OGo.st (fun _ k_ => XS.iconst X135.here hx rfl (hb hby at_388) k_) ?_
        show OGo p.tables e below _ (T135.setTop (mkF m 389 #[.val (.int p0), .val (.int p1), .val (.int p2), .val (.int p3), .val (.int p4), .val (.int p5), .val (.int d0), .val (.int d1), .val (.int d2), .val (.int c0), .val (.int c1), .val (.int c2), .val (.int ve), .val (.int c0), .val (.int s2), .val (.int s3), .val (.int base), .val (.ref bz2), .val (.ref bz23), .val (.int (p2 &&& (7 : Int32))), .val (.int q), .val (.ref rb126), .val (.ref rb135), .val (.int (0 : Int32)), .unset, .unset] [(.int (0 : Int32))]))
        refine OGo.st (fun _ k_ => XS.istore X135.here hx rfl (hb hby at_389) rfl (l' := #[.val (.int p0), .val (.int p1), .val (.int p2), .val (.int p3), .val (.int p4), .val (.int p5), .val (.int d0), .val (.int d1), .val (.int d2), .val (.int c0), .val (.int c1), .val (.int c2), .val (.int ve), .val (.int c0), .val (.int s2), .val (.int s3), .val (.int base), .val (.ref bz2), .val (.ref bz23), .val (.int (p2 &&& (7 : Int32))), .val (.int q), .val (.ref rb126), .val (.ref rb135), .val (.int (0 : Int32)), .val (.int (0 : Int32)), .unset]) rfl k_) ?_
        show OGo p.tables e below _ (T135.setTop (mkF m 391 #[.val (.int p0), .val (.int p1), .val (.int p2), .val (.int p3), .val (.int p4), .val (.int p5), .val (.int d0), .val (.int d1), .val (.int d2), .val (.int c0), .val (.int c1), .val (.int c2), .val (.int ve), .val (.int c0), .val (.int s2), .val (.int s3), .val (.int base), .val (.ref bz2), .val (.ref bz23), .val (.int (p2 &&& (7 : Int32))), .val (.int q), .val (.ref rb126), .val (.ref rb135), .val (.int (0 : Int32)), .val (.int (0 : Int32)), .unset] []))
        refine OGo.st (fun _ k_ => XS.iload X135.here hx rfl (hb hby at_391) rfl k_) ?_
        show OGo p.tables e below _ (T135.setTop (mkF m 393 #[.val (.int p0), .val (.int p1), .val (.int p2), .val (.int p3), .val (.int p4), .val (.int p5), .val (.int d0), .val (.int d1), .val (.int d2), .val (.int c0), .val (.int c1), .val (.int c2), .val (.int ve), .val (.int c0), .val (.int s2), .val (.int s3), .val (.int base), .val (.ref bz2), .val (.ref bz23), .val (.int (p2 &&& (7 : Int32))), .val (.int q), .val (.ref rb126), .val (.ref rb135), .val (.int (0 : Int32)), .val (.int (0 : Int32)), .unset] [(.int ve)]))
        refine OGo.st (fun _ k_ => XS.ifNo X135.here hx rfl (hb hby at_393) rfl (XT.i0_ne_f hem) k_) ?_
        show OGo p.tables e below _ (T135.setTop (mkF m 396 #[.val (.int p0), .val (.int p1), .val (.int p2), .val (.int p3), .val (.int p4), .val (.int p5), .val (.int d0), .val (.int d1), .val (.int d2), .val (.int c0), .val (.int c1), .val (.int c2), .val (.int ve), .val (.int c0), .val (.int s2), .val (.int s3), .val (.int base), .val (.ref bz2), .val (.ref bz23), .val (.int (p2 &&& (7 : Int32))), .val (.int q), .val (.ref rb126), .val (.ref rb135), .val (.int (0 : Int32)), .val (.int (0 : Int32)), .unset] []))
        refine OGo.st (fun _ k_ => XS.iload X135.here hx rfl (hb hby at_396) rfl k_) ?_
        show OGo p.tables e below _ (T135.setTop (mkF m 398 #[.val (.int p0), .val (.int p1), .val (.int p2), .val (.int p3), .val (.int p4), .val (.int p5), .val (.int d0), .val (.int d1), .val (.int d2), .val (.int c0), .val (.int c1), .val (.int c2), .val (.int ve), .val (.int c0), .val (.int s2), .val (.int s3), .val (.int base), .val (.ref bz2), .val (.ref bz23), .val (.int (p2 &&& (7 : Int32))), .val (.int q), .val (.ref rb126), .val (.ref rb135), .val (.int (0 : Int32)), .val (.int (0 : Int32)), .unset] [(.int q)]))
        refine OGo.st (fun _ k_ => XS.iload X135.here hx rfl (hb hby at_398) rfl k_) ?_
        show OGo p.tables e below _ (T135.setTop (mkF m 400 #[.val (.int p0), .val (.int p1), .val (.int p2), .val (.int p3), .val (.int p4), .val (.int p5), .val (.int d0), .val (.int d1), .val (.int d2), .val (.int c0), .val (.int c1), .val (.int c2), .val (.int ve), .val (.int c0), .val (.int s2), .val (.int s3), .val (.int base), .val (.ref bz2), .val (.ref bz23), .val (.int (p2 &&& (7 : Int32))), .val (.int q), .val (.ref rb126), .val (.ref rb135), .val (.int (0 : Int32)), .val (.int (0 : Int32)), .unset] [(.int d0), (.int q)]))
        refine OGo.st (fun _ k_ => XS.icmpYes X135.here hx rfl (pc0 := 400) (pc' := 413) rfl (hb hby at_400) rfl (XT.ii_ne_t e0_) (by decide) (by decide) k_) ?_
        show OGo p.tables e below _ (T135.setTop (mkF m 413 #[.val (.int p0), .val (.int p1), .val (.int p2), .val (.int p3), .val (.int p4), .val (.int p5), .val (.int d0), .val (.int d1), .val (.int d2), .val (.int c0), .val (.int c1), .val (.int c2), .val (.int ve), .val (.int c0), .val (.int s2), .val (.int s3), .val (.int base), .val (.ref bz2), .val (.ref bz23), .val (.int (p2 &&& (7 : Int32))), .val (.int q), .val (.ref rb126), .val (.ref rb135), .val (.int (0 : Int32)), .val (.int (0 : Int32)), .unset] []))
        refine OGo.st (fun _ k_ => XS.iload X135.here hx rfl (hb hby at_413) rfl k_) ?_
        show OGo p.tables e below _ (T135.setTop (mkF m 415 #[.val (.int p0), .val (.int p1), .val (.int p2), .val (.int p3), .val (.int p4), .val (.int p5), .val (.int d0), .val (.int d1), .val (.int d2), .val (.int c0), .val (.int c1), .val (.int c2), .val (.int ve), .val (.int c0), .val (.int s2), .val (.int s3), .val (.int base), .val (.ref bz2), .val (.ref bz23), .val (.int (p2 &&& (7 : Int32))), .val (.int q), .val (.ref rb126), .val (.ref rb135), .val (.int (0 : Int32)), .val (.int (0 : Int32)), .unset] [(.int q)]))
        refine OGo.st (fun _ k_ => XS.iload X135.here hx rfl (hb hby at_415) rfl k_) ?_
        show OGo p.tables e below _ (T135.setTop (mkF m 417 #[.val (.int p0), .val (.int p1), .val (.int p2), .val (.int p3), .val (.int p4), .val (.int p5), .val (.int d0), .val (.int d1), .val (.int d2), .val (.int c0), .val (.int c1), .val (.int c2), .val (.int ve), .val (.int c0), .val (.int s2), .val (.int s3), .val (.int base), .val (.ref bz2), .val (.ref bz23), .val (.int (p2 &&& (7 : Int32))), .val (.int q), .val (.ref rb126), .val (.ref rb135), .val (.int (0 : Int32)), .val (.int (0 : Int32)), .unset] [(.int d1), (.int q)]))
        refine OGo.st (fun _ k_ => XS.icmpNo X135.here hx rfl (hb hby at_417) rfl (XT.ii_ne_f e1_) k_) ?_
        show OGo p.tables e below _ (T135.setTop (mkF m 420 #[.val (.int p0), .val (.int p1), .val (.int p2), .val (.int p3), .val (.int p4), .val (.int p5), .val (.int d0), .val (.int d1), .val (.int d2), .val (.int c0), .val (.int c1), .val (.int c2), .val (.int ve), .val (.int c0), .val (.int s2), .val (.int s3), .val (.int base), .val (.ref bz2), .val (.ref bz23), .val (.int (p2 &&& (7 : Int32))), .val (.int q), .val (.ref rb126), .val (.ref rb135), .val (.int (0 : Int32)), .val (.int (0 : Int32)), .unset] []))
        refine OGo.st (fun _ k_ => XS.iload X135.here hx rfl (hb hby at_420) rfl k_) ?_
        show OGo p.tables e below _ (T135.setTop (mkF m 422 #[.val (.int p0), .val (.int p1), .val (.int p2), .val (.int p3), .val (.int p4), .val (.int p5), .val (.int d0), .val (.int d1), .val (.int d2), .val (.int c0), .val (.int c1), .val (.int c2), .val (.int ve), .val (.int c0), .val (.int s2), .val (.int s3), .val (.int base), .val (.ref bz2), .val (.ref bz23), .val (.int (p2 &&& (7 : Int32))), .val (.int q), .val (.ref rb126), .val (.ref rb135), .val (.int (0 : Int32)), .val (.int (0 : Int32)), .unset] [(.int c0)]))
        refine OGo.st (fun _ k_ => XS.istore X135.here hx rfl (hb hby at_422) rfl (l' := #[.val (.int p0), .val (.int p1), .val (.int p2), .val (.int p3), .val (.int p4), .val (.int p5), .val (.int d0), .val (.int d1), .val (.int d2), .val (.int c0), .val (.int c1), .val (.int c2), .val (.int ve), .val (.int c0), .val (.int s2), .val (.int s3), .val (.int base), .val (.ref bz2), .val (.ref bz23), .val (.int (p2 &&& (7 : Int32))), .val (.int q), .val (.ref rb126), .val (.ref rb135), .val (.int c0), .val (.int (0 : Int32)), .unset]) rfl k_) ?_
        show OGo p.tables e below _ (T135.setTop (mkF m 424 #[.val (.int p0), .val (.int p1), .val (.int p2), .val (.int p3), .val (.int p4), .val (.int p5), .val (.int d0), .val (.int d1), .val (.int d2), .val (.int c0), .val (.int c1), .val (.int c2), .val (.int ve), .val (.int c0), .val (.int s2), .val (.int s3), .val (.int base), .val (.ref bz2), .val (.ref bz23), .val (.int (p2 &&& (7 : Int32))), .val (.int q), .val (.ref rb126), .val (.ref rb135), .val (.int c0), .val (.int (0 : Int32)), .unset] []))
        refine OGo.st (fun _ k_ => XS.iload X135.here hx rfl (hb hby at_424) rfl k_) ?_
        show OGo p.tables e below _ (T135.setTop (mkF m 426 #[.val (.int p0), .val (.int p1), .val (.int p2), .val (.int p3), .val (.int p4), .val (.int p5), .val (.int d0), .val (.int d1), .val (.int d2), .val (.int c0), .val (.int c1), .val (.int c2), .val (.int ve), .val (.int c0), .val (.int s2), .val (.int s3), .val (.int base), .val (.ref bz2), .val (.ref bz23), .val (.int (p2 &&& (7 : Int32))), .val (.int q), .val (.ref rb126), .val (.ref rb135), .val (.int c0), .val (.int (0 : Int32)), .unset] [(.int s2)]))
        refine OGo.st (fun _ k_ => XS.istore X135.here hx rfl (hb hby at_426) rfl (l' := #[.val (.int p0), .val (.int p1), .val (.int p2), .val (.int p3), .val (.int p4), .val (.int p5), .val (.int d0), .val (.int d1), .val (.int d2), .val (.int c0), .val (.int c1), .val (.int c2), .val (.int ve), .val (.int c0), .val (.int s2), .val (.int s3), .val (.int base), .val (.ref bz2), .val (.ref bz23), .val (.int (p2 &&& (7 : Int32))), .val (.int q), .val (.ref rb126), .val (.ref rb135), .val (.int c0), .val (.int s2), .unset]) rfl k_) ?_
        show OGo p.tables e below _ (T135.setTop (mkF m 428 #[.val (.int p0), .val (.int p1), .val (.int p2), .val (.int p3), .val (.int p4), .val (.int p5), .val (.int d0), .val (.int d1), .val (.int d2), .val (.int c0), .val (.int c1), .val (.int c2), .val (.int ve), .val (.int c0), .val (.int s2), .val (.int s3), .val (.int base), .val (.ref bz2), .val (.ref bz23), .val (.int (p2 &&& (7 : Int32))), .val (.int q), .val (.ref rb126), .val (.ref rb135), .val (.int c0), .val (.int s2), .unset] []))
        refine OGo.st (fun _ k_ => XS.goto X135.here hx rfl (pc0 := 428) (pc' := 446) rfl (hb hby at_428) (by decide) (by decide) k_) ?_
        show OGo p.tables e below _ (T135.setTop (mkF m 446 #[.val (.int p0), .val (.int p1), .val (.int p2), .val (.int p3), .val (.int p4), .val (.int p5), .val (.int d0), .val (.int d1), .val (.int d2), .val (.int c0), .val (.int c1), .val (.int c2), .val (.int ve), .val (.int c0), .val (.int s2), .val (.int s3), .val (.int base), .val (.ref bz2), .val (.ref bz23), .val (.int (p2 &&& (7 : Int32))), .val (.int q), .val (.ref rb126), .val (.ref rb135), .val (.int c0), .val (.int s2), .unset] []))
        refine OGo.st (fun _ k_ => XS.iload X135.here hx rfl (hb hby at_446) rfl k_) ?_
        show OGo p.tables e below _ (T135.setTop (mkF m 448 #[.val (.int p0), .val (.int p1), .val (.int p2), .val (.int p3), .val (.int p4), .val (.int p5), .val (.int d0), .val (.int d1), .val (.int d2), .val (.int c0), .val (.int c1), .val (.int c2), .val (.int ve), .val (.int c0), .val (.int s2), .val (.int s3), .val (.int base), .val (.ref bz2), .val (.ref bz23), .val (.int (p2 &&& (7 : Int32))), .val (.int q), .val (.ref rb126), .val (.ref rb135), .val (.int c0), .val (.int s2), .unset] [(.int s2)]))
        refine OGo.st (fun _ k_ => XS.iload X135.here hx rfl (hb hby at_448) rfl k_) ?_
        show OGo p.tables e below _ (T135.setTop (mkF m 450 #[.val (.int p0), .val (.int p1), .val (.int p2), .val (.int p3), .val (.int p4), .val (.int p5), .val (.int d0), .val (.int d1), .val (.int d2), .val (.int c0), .val (.int c1), .val (.int c2), .val (.int ve), .val (.int c0), .val (.int s2), .val (.int s3), .val (.int base), .val (.ref bz2), .val (.ref bz23), .val (.int (p2 &&& (7 : Int32))), .val (.int q), .val (.ref rb126), .val (.ref rb135), .val (.int c0), .val (.int s2), .unset] [(.int c0), (.int s2)]))
        refine OGo.st (fun _ k_ => XS.isub X135.here hx rfl (hb hby at_450) rfl k_) ?_
        show OGo p.tables e below _ (T135.setTop (mkF m 451 #[.val (.int p0), .val (.int p1), .val (.int p2), .val (.int p3), .val (.int p4), .val (.int p5), .val (.int d0), .val (.int d1), .val (.int d2), .val (.int c0), .val (.int c1), .val (.int c2), .val (.int ve), .val (.int c0), .val (.int s2), .val (.int s3), .val (.int base), .val (.ref bz2), .val (.ref bz23), .val (.int (p2 &&& (7 : Int32))), .val (.int q), .val (.ref rb126), .val (.ref rb135), .val (.int c0), .val (.int s2), .unset] [(.int (s2 - c0))]))
        refine OGo.st (fun _ k_ => XS.istore X135.here hx rfl (hb hby at_451) rfl (l' := #[.val (.int p0), .val (.int p1), .val (.int p2), .val (.int p3), .val (.int p4), .val (.int p5), .val (.int d0), .val (.int d1), .val (.int d2), .val (.int c0), .val (.int c1), .val (.int c2), .val (.int ve), .val (.int c0), .val (.int s2), .val (.int s3), .val (.int base), .val (.ref bz2), .val (.ref bz23), .val (.int (p2 &&& (7 : Int32))), .val (.int q), .val (.ref rb126), .val (.ref rb135), .val (.int c0), .val (.int s2), .val (.int (s2 - c0))]) rfl k_) ?_
        show OGo p.tables e below _ (T135.setTop (mkF m 453 #[.val (.int p0), .val (.int p1), .val (.int p2), .val (.int p3), .val (.int p4), .val (.int p5), .val (.int d0), .val (.int d1), .val (.int d2), .val (.int c0), .val (.int c1), .val (.int c2), .val (.int ve), .val (.int c0), .val (.int s2), .val (.int s3), .val (.int base), .val (.ref bz2), .val (.ref bz23), .val (.int (p2 &&& (7 : Int32))), .val (.int q), .val (.ref rb126), .val (.ref rb135), .val (.int c0), .val (.int s2), .val (.int (s2 - c0))] []))
        refine OGo.st (fun _ k_ => XS.aload X135.here hx rfl (hb hby at_453) rfl rfl k_) ?_
        show OGo p.tables e below _ (T135.setTop (mkF m 455 #[.val (.int p0), .val (.int p1), .val (.int p2), .val (.int p3), .val (.int p4), .val (.int p5), .val (.int d0), .val (.int d1), .val (.int d2), .val (.int c0), .val (.int c1), .val (.int c2), .val (.int ve), .val (.int c0), .val (.int s2), .val (.int s3), .val (.int base), .val (.ref bz2), .val (.ref bz23), .val (.int (p2 &&& (7 : Int32))), .val (.int q), .val (.ref rb126), .val (.ref rb135), .val (.int c0), .val (.int s2), .val (.int (s2 - c0))] [(.ref rb126)]))
        refine OGo.st (fun _ k_ => XT.nullNo X135.here hx rfl (hb hby at_455) rfl rfl nofun k_) ?_
        show OGo p.tables e below _ (T135.setTop (mkF m 458 #[.val (.int p0), .val (.int p1), .val (.int p2), .val (.int p3), .val (.int p4), .val (.int p5), .val (.int d0), .val (.int d1), .val (.int d2), .val (.int c0), .val (.int c1), .val (.int c2), .val (.int ve), .val (.int c0), .val (.int s2), .val (.int s3), .val (.int base), .val (.ref bz2), .val (.ref bz23), .val (.int (p2 &&& (7 : Int32))), .val (.int q), .val (.ref rb126), .val (.ref rb135), .val (.int c0), .val (.int s2), .val (.int (s2 - c0))] []))
        refine OGo.st (fun _ k_ => XS.aload X135.here hx rfl (hb hby at_458) rfl rfl k_) ?_
        show OGo p.tables e below _ (T135.setTop (mkF m 460 #[.val (.int p0), .val (.int p1), .val (.int p2), .val (.int p3), .val (.int p4), .val (.int p5), .val (.int d0), .val (.int d1), .val (.int d2), .val (.int c0), .val (.int c1), .val (.int c2), .val (.int ve), .val (.int c0), .val (.int s2), .val (.int s3), .val (.int base), .val (.ref bz2), .val (.ref bz23), .val (.int (p2 &&& (7 : Int32))), .val (.int q), .val (.ref rb126), .val (.ref rb135), .val (.int c0), .val (.int s2), .val (.int (s2 - c0))] [(.ref rb135)]))
        refine OGo.st (fun _ k_ => XT.nullNo X135.here hx rfl (hb hby at_460) rfl rfl nofun k_) ?_
        show OGo p.tables e below _ (T135.setTop (mkF m 463 #[.val (.int p0), .val (.int p1), .val (.int p2), .val (.int p3), .val (.int p4), .val (.int p5), .val (.int d0), .val (.int d1), .val (.int d2), .val (.int c0), .val (.int c1), .val (.int c2), .val (.int ve), .val (.int c0), .val (.int s2), .val (.int s3), .val (.int base), .val (.ref bz2), .val (.ref bz23), .val (.int (p2 &&& (7 : Int32))), .val (.int q), .val (.ref rb126), .val (.ref rb135), .val (.int c0), .val (.int s2), .val (.int (s2 - c0))] []))
        refine OGo.st (fun _ k_ => XS.aload X135.here hx rfl (hb hby at_463) rfl rfl k_) ?_
        show OGo p.tables e below _ (T135.setTop (mkF m 465 #[.val (.int p0), .val (.int p1), .val (.int p2), .val (.int p3), .val (.int p4), .val (.int p5), .val (.int d0), .val (.int d1), .val (.int d2), .val (.int c0), .val (.int c1), .val (.int c2), .val (.int ve), .val (.int c0), .val (.int s2), .val (.int s3), .val (.int base), .val (.ref bz2), .val (.ref bz23), .val (.int (p2 &&& (7 : Int32))), .val (.int q), .val (.ref rb126), .val (.ref rb135), .val (.int c0), .val (.int s2), .val (.int (s2 - c0))] [(.ref rb126)]))
        refine OGo.st (fun _ k_ => XS.aload X135.here hx rfl (hb hby at_465) rfl rfl k_) ?_
        show OGo p.tables e below _ (T135.setTop (mkF m 467 #[.val (.int p0), .val (.int p1), .val (.int p2), .val (.int p3), .val (.int p4), .val (.int p5), .val (.int d0), .val (.int d1), .val (.int d2), .val (.int c0), .val (.int c1), .val (.int c2), .val (.int ve), .val (.int c0), .val (.int s2), .val (.int s3), .val (.int base), .val (.ref bz2), .val (.ref bz23), .val (.int (p2 &&& (7 : Int32))), .val (.int q), .val (.ref rb126), .val (.ref rb135), .val (.int c0), .val (.int s2), .val (.int (s2 - c0))] [(.ref rb135), (.ref rb126)]))
        refine OGo.st (fun _ k_ => XT.acmpNo X135.here hx rfl (hb hby at_467) rfl rfl rfl (XT.aa_eq_f (fun q => ne_rb126_rb135 (Value.ref.inj q))) k_) ?_
        show OGo p.tables e below _ (T135.setTop (mkF m 470 #[.val (.int p0), .val (.int p1), .val (.int p2), .val (.int p3), .val (.int p4), .val (.int p5), .val (.int d0), .val (.int d1), .val (.int d2), .val (.int c0), .val (.int c1), .val (.int c2), .val (.int ve), .val (.int c0), .val (.int s2), .val (.int s3), .val (.int base), .val (.ref bz2), .val (.ref bz23), .val (.int (p2 &&& (7 : Int32))), .val (.int q), .val (.ref rb126), .val (.ref rb135), .val (.int c0), .val (.int s2), .val (.int (s2 - c0))] []))
        refine OGo.st (fun _ k_ => XS.aload X135.here hx rfl (hb hby at_470) rfl rfl k_) ?_
        show OGo p.tables e below _ (T135.setTop (mkF m 472 #[.val (.int p0), .val (.int p1), .val (.int p2), .val (.int p3), .val (.int p4), .val (.int p5), .val (.int d0), .val (.int d1), .val (.int d2), .val (.int c0), .val (.int c1), .val (.int c2), .val (.int ve), .val (.int c0), .val (.int s2), .val (.int s3), .val (.int base), .val (.ref bz2), .val (.ref bz23), .val (.int (p2 &&& (7 : Int32))), .val (.int q), .val (.ref rb126), .val (.ref rb135), .val (.int c0), .val (.int s2), .val (.int (s2 - c0))] [(.ref rb126)]))
        refine OGo.st (fun _ k_ => XS.aload X135.here hx rfl (hb hby at_472) rfl rfl k_) ?_
        show OGo p.tables e below _ (T135.setTop (mkF m 474 #[.val (.int p0), .val (.int p1), .val (.int p2), .val (.int p3), .val (.int p4), .val (.int p5), .val (.int d0), .val (.int d1), .val (.int d2), .val (.int c0), .val (.int c1), .val (.int c2), .val (.int ve), .val (.int c0), .val (.int s2), .val (.int s3), .val (.int base), .val (.ref bz2), .val (.ref bz23), .val (.int (p2 &&& (7 : Int32))), .val (.int q), .val (.ref rb126), .val (.ref rb135), .val (.int c0), .val (.int s2), .val (.int (s2 - c0))] [(.ref bz2), (.ref rb126)]))
        refine OGo.st (fun _ k_ => XT.acmpYes X135.here hx rfl (pc0 := 474) (pc' := 479) rfl (hb hby at_474) rfl rfl rfl (XT.aa_ne_t (fun q => (Ne.symm ne_bz2_rb126) (Value.ref.inj q))) (by decide) (by decide) k_) ?_
        show OGo p.tables e below _ (T135.setTop (mkF m 479 #[.val (.int p0), .val (.int p1), .val (.int p2), .val (.int p3), .val (.int p4), .val (.int p5), .val (.int d0), .val (.int d1), .val (.int d2), .val (.int c0), .val (.int c1), .val (.int c2), .val (.int ve), .val (.int c0), .val (.int s2), .val (.int s3), .val (.int base), .val (.ref bz2), .val (.ref bz23), .val (.int (p2 &&& (7 : Int32))), .val (.int q), .val (.ref rb126), .val (.ref rb135), .val (.int c0), .val (.int s2), .val (.int (s2 - c0))] []))
        refine OGo.st (fun _ k_ => XS.aload X135.here hx rfl (hb hby at_479) rfl rfl k_) ?_
        show OGo p.tables e below _ (T135.setTop (mkF m 481 #[.val (.int p0), .val (.int p1), .val (.int p2), .val (.int p3), .val (.int p4), .val (.int p5), .val (.int d0), .val (.int d1), .val (.int d2), .val (.int c0), .val (.int c1), .val (.int c2), .val (.int ve), .val (.int c0), .val (.int s2), .val (.int s3), .val (.int base), .val (.ref bz2), .val (.ref bz23), .val (.int (p2 &&& (7 : Int32))), .val (.int q), .val (.ref rb126), .val (.ref rb135), .val (.int c0), .val (.int s2), .val (.int (s2 - c0))] [(.ref rb126)]))
        have qz145 := own_alen X135 hx hZ rfl Af_143 (g := (mkF m 481 #[.val (.int p0), .val (.int p1), .val (.int p2), .val (.int p3), .val (.int p4), .val (.int p5), .val (.int d0), .val (.int d1), .val (.int d2), .val (.int c0), .val (.int c1), .val (.int c2), .val (.int ve), .val (.int c0), .val (.int s2), .val (.int s3), .val (.int base), .val (.ref bz2), .val (.ref bz23), .val (.int (p2 &&& (7 : Int32))), .val (.int q), .val (.ref rb126), .val (.ref rb135), .val (.int c0), .val (.int s2), .val (.int (s2 - c0))] [(.ref rb126)])) rfl rfl (hb hby at_481)
        refine OGo.st qz145 ?_
        show OGo p.tables e below _ (T135.setTop (mkF m 482 #[.val (.int p0), .val (.int p1), .val (.int p2), .val (.int p3), .val (.int p4), .val (.int p5), .val (.int d0), .val (.int d1), .val (.int d2), .val (.int c0), .val (.int c1), .val (.int c2), .val (.int ve), .val (.int c0), .val (.int s2), .val (.int s3), .val (.int base), .val (.ref bz2), .val (.ref bz23), .val (.int (p2 &&& (7 : Int32))), .val (.int q), .val (.ref rb126), .val (.ref rb135), .val (.int c0), .val (.int s2), .val (.int (s2 - c0))] [(.int (s2 - c0))]))
        refine OGo.st (fun _ k_ => XS.iload X135.here hx rfl (hb hby at_482) rfl k_) ?_
        show OGo p.tables e below _ (T135.setTop (mkF m 484 #[.val (.int p0), .val (.int p1), .val (.int p2), .val (.int p3), .val (.int p4), .val (.int p5), .val (.int d0), .val (.int d1), .val (.int d2), .val (.int c0), .val (.int c1), .val (.int c2), .val (.int ve), .val (.int c0), .val (.int s2), .val (.int s3), .val (.int base), .val (.ref bz2), .val (.ref bz23), .val (.int (p2 &&& (7 : Int32))), .val (.int q), .val (.ref rb126), .val (.ref rb135), .val (.int c0), .val (.int s2), .val (.int (s2 - c0))] [(.int (s2 - c0)), (.int (s2 - c0))]))
        refine OGo.st (fun _ k_ => XS.icmpNo X135.here hx rfl (hb hby at_484) rfl (XT.ii_ne_f rfl) k_) ?_
        show OGo p.tables e below _ (T135.setTop (mkF m 487 #[.val (.int p0), .val (.int p1), .val (.int p2), .val (.int p3), .val (.int p4), .val (.int p5), .val (.int d0), .val (.int d1), .val (.int d2), .val (.int c0), .val (.int c1), .val (.int c2), .val (.int ve), .val (.int c0), .val (.int s2), .val (.int s3), .val (.int base), .val (.ref bz2), .val (.ref bz23), .val (.int (p2 &&& (7 : Int32))), .val (.int q), .val (.ref rb126), .val (.ref rb135), .val (.int c0), .val (.int s2), .val (.int (s2 - c0))] []))
        refine OGo.st (fun _ k_ => XS.aload X135.here hx rfl (hb hby at_487) rfl rfl k_) ?_
        show OGo p.tables e below _ (T135.setTop (mkF m 489 #[.val (.int p0), .val (.int p1), .val (.int p2), .val (.int p3), .val (.int p4), .val (.int p5), .val (.int d0), .val (.int d1), .val (.int d2), .val (.int c0), .val (.int c1), .val (.int c2), .val (.int ve), .val (.int c0), .val (.int s2), .val (.int s3), .val (.int base), .val (.ref bz2), .val (.ref bz23), .val (.int (p2 &&& (7 : Int32))), .val (.int q), .val (.ref rb126), .val (.ref rb135), .val (.int c0), .val (.int s2), .val (.int (s2 - c0))] [(.ref rb135)]))
        have qz146 := own_alen X135 hx hZ rfl Ar135 (g := (mkF m 489 #[.val (.int p0), .val (.int p1), .val (.int p2), .val (.int p3), .val (.int p4), .val (.int p5), .val (.int d0), .val (.int d1), .val (.int d2), .val (.int c0), .val (.int c1), .val (.int c2), .val (.int ve), .val (.int c0), .val (.int s2), .val (.int s3), .val (.int base), .val (.ref bz2), .val (.ref bz23), .val (.int (p2 &&& (7 : Int32))), .val (.int q), .val (.ref rb126), .val (.ref rb135), .val (.int c0), .val (.int s2), .val (.int (s2 - c0))] [(.ref rb135)])) rfl rfl (hb hby at_489)
        refine OGo.st qz146 ?_
        show OGo p.tables e below _ (T135.setTop (mkF m 490 #[.val (.int p0), .val (.int p1), .val (.int p2), .val (.int p3), .val (.int p4), .val (.int p5), .val (.int d0), .val (.int d1), .val (.int d2), .val (.int c0), .val (.int c1), .val (.int c2), .val (.int ve), .val (.int c0), .val (.int s2), .val (.int s3), .val (.int base), .val (.ref bz2), .val (.ref bz23), .val (.int (p2 &&& (7 : Int32))), .val (.int q), .val (.ref rb126), .val (.ref rb135), .val (.int c0), .val (.int s2), .val (.int (s2 - c0))] [(.int (s2 - c0))]))
        refine OGo.st (fun _ k_ => XS.iload X135.here hx rfl (hb hby at_490) rfl k_) ?_
        show OGo p.tables e below _ (T135.setTop (mkF m 492 #[.val (.int p0), .val (.int p1), .val (.int p2), .val (.int p3), .val (.int p4), .val (.int p5), .val (.int d0), .val (.int d1), .val (.int d2), .val (.int c0), .val (.int c1), .val (.int c2), .val (.int ve), .val (.int c0), .val (.int s2), .val (.int s3), .val (.int base), .val (.ref bz2), .val (.ref bz23), .val (.int (p2 &&& (7 : Int32))), .val (.int q), .val (.ref rb126), .val (.ref rb135), .val (.int c0), .val (.int s2), .val (.int (s2 - c0))] [(.int (s2 - c0)), (.int (s2 - c0))]))
        refine OGo.st (fun _ k_ => XS.icmpYes X135.here hx rfl (pc0 := 492) (pc' := 497) rfl (hb hby at_492) rfl (XT.ii_eq_t rfl) (by decide) (by decide) k_) ?_
        show OGo p.tables e below _ (T135.setTop (mkF m 497 #[.val (.int p0), .val (.int p1), .val (.int p2), .val (.int p3), .val (.int p4), .val (.int p5), .val (.int d0), .val (.int d1), .val (.int d2), .val (.int c0), .val (.int c1), .val (.int c2), .val (.int ve), .val (.int c0), .val (.int s2), .val (.int s3), .val (.int base), .val (.ref bz2), .val (.ref bz23), .val (.int (p2 &&& (7 : Int32))), .val (.int q), .val (.ref rb126), .val (.ref rb135), .val (.int c0), .val (.int s2), .val (.int (s2 - c0))] []))
        refine OGo.st (fun _ k_ => XS.aload X135.here hx rfl (hb hby at_497) rfl rfl k_) ?_
        show OGo p.tables e below _ (T135.setTop (mkF m 499 #[.val (.int p0), .val (.int p1), .val (.int p2), .val (.int p3), .val (.int p4), .val (.int p5), .val (.int d0), .val (.int d1), .val (.int d2), .val (.int c0), .val (.int c1), .val (.int c2), .val (.int ve), .val (.int c0), .val (.int s2), .val (.int s3), .val (.int base), .val (.ref bz2), .val (.ref bz23), .val (.int (p2 &&& (7 : Int32))), .val (.int q), .val (.ref rb126), .val (.ref rb135), .val (.int c0), .val (.int s2), .val (.int (s2 - c0))] [(.ref rb126)]))
        refine OGo.st (fun _ k_ => XS.aload X135.here hx rfl (hb hby at_499) rfl rfl k_) ?_
        show OGo p.tables e below _ (T135.setTop (mkF m 501 #[.val (.int p0), .val (.int p1), .val (.int p2), .val (.int p3), .val (.int p4), .val (.int p5), .val (.int d0), .val (.int d1), .val (.int d2), .val (.int c0), .val (.int c1), .val (.int c2), .val (.int ve), .val (.int c0), .val (.int s2), .val (.int s3), .val (.int base), .val (.ref bz2), .val (.ref bz23), .val (.int (p2 &&& (7 : Int32))), .val (.int q), .val (.ref rb126), .val (.ref rb135), .val (.int c0), .val (.int s2), .val (.int (s2 - c0))] [(.ref bz2), (.ref rb126)]))
        refine OGo.st (fun _ k_ => XS.iload X135.here hx rfl (hb hby at_501) rfl k_) ?_
        show OGo p.tables e below _ (T135.setTop (mkF m 503 #[.val (.int p0), .val (.int p1), .val (.int p2), .val (.int p3), .val (.int p4), .val (.int p5), .val (.int d0), .val (.int d1), .val (.int d2), .val (.int c0), .val (.int c1), .val (.int c2), .val (.int ve), .val (.int c0), .val (.int s2), .val (.int s3), .val (.int base), .val (.ref bz2), .val (.ref bz23), .val (.int (p2 &&& (7 : Int32))), .val (.int q), .val (.ref rb126), .val (.ref rb135), .val (.int c0), .val (.int s2), .val (.int (s2 - c0))] [(.int c0), (.ref bz2), (.ref rb126)]))
        refine OGo.st (fun _ k_ => XS.iload X135.here hx rfl (hb hby at_503) rfl k_) ?_
        show OGo p.tables e below _ (T135.setTop (mkF m 505 #[.val (.int p0), .val (.int p1), .val (.int p2), .val (.int p3), .val (.int p4), .val (.int p5), .val (.int d0), .val (.int d1), .val (.int d2), .val (.int c0), .val (.int c1), .val (.int c2), .val (.int ve), .val (.int c0), .val (.int s2), .val (.int s3), .val (.int base), .val (.ref bz2), .val (.ref bz23), .val (.int (p2 &&& (7 : Int32))), .val (.int q), .val (.ref rb126), .val (.ref rb135), .val (.int c0), .val (.int s2), .val (.int (s2 - c0))] [(.int (s2 - c0)), (.int c0), (.ref bz2), (.ref rb126)]))
        obtain ⟨_, _, ⟨T147, Lz147, kz147, nz147⟩, -, X147, ⟨Lc147, hQ147, lz147, yz147, zz147⟩, st147⟩ := Jvm.LawKit.callS X135 hx (y := (⟨"com/example/cari/cari/index/PositionsInPinLaw", "same", "([I[III)Z"⟩ : MethodName)) hown (mvT hZ (hw _ (List.mem_of_getElem? (i := 46) rfl))) (mvT hZ (hw _ (List.mem_of_getElem? (i := 47) rfl))) (mvT hZ (hw _ (List.mem_of_getElem? (i := 48) rfl))) (mvT hZ (hw _ (List.mem_of_getElem? (i := 49) rfl))) (by decide) (backOf (W := 0) (rm15 l Z a0 hw [] rb126 bz2 c0 (s2 - c0) kr126 kz2 (own_9 base) (fun i => own_P (own_9 base) (c0.toNatClampNeg + i)) T135.heap n0 (Nat.le_trans Z0 K_144.1) Af_143 Af_136 (fun _ _ => rfl) (own_ok9 hs.2.1)) hZ (hw _ (List.mem_of_getElem? (i := 49) rfl)) (hw _ (List.mem_of_getElem? (i := 48) rfl)) (by decide) (by decide)) (g := (mkF m 505 #[.val (.int p0), .val (.int p1), .val (.int p2), .val (.int p3), .val (.int p4), .val (.int p5), .val (.int d0), .val (.int d1), .val (.int d2), .val (.int c0), .val (.int c1), .val (.int c2), .val (.int ve), .val (.int c0), .val (.int s2), .val (.int s3), .val (.int base), .val (.ref bz2), .val (.ref bz23), .val (.int (p2 &&& (7 : Int32))), .val (.int q), .val (.ref rb126), .val (.ref rb135), .val (.int c0), .val (.int s2), .val (.int (s2 - c0))] [(.int (s2 - c0)), (.int c0), (.ref bz2), (.ref rb126)])) rfl (by rw [hml]; rfl) (argsL := [(.ref rb126), (.ref bz2), (.int c0), (.int (s2 - c0))]) (rest := []) (lenOf own_pd7 rfl) rfl (by show 2 * 0 + _ ≤ _; exact Nat.le_of_eq rfl) (hb hby at_505) (fun _ _ => ⟨rfl, rfl, (by decide : 6 + 0 ≤ _), (by decide : 25 + 0 ≤ _)⟩)
        dsimp only [Pt.U, Pt.locs, Pt.cells, Pt.slots] at X147 lz147 yz147 zz147 st147 hQ147
        have X147 := own_reb X147 lz147 yz147 zz147
        have X147 : Stand p l e room_1 s m #[(.int p0), (.int p1), (.int p2), (.int p3), (.int p4), (.int p5)] below meth c T147 _ 6 25 := X147
        obtain ⟨hvq147, Nq147, ez147⟩ := hQ147
        rw [hvq147] at st147
        have N147 := Fr.app N135 Nq147
        refine OGo.st st147 ?_
        show OGo p.tables e below _ (T147.setTop (mkF m 508 #[.val (.int p0), .val (.int p1), .val (.int p2), .val (.int p3), .val (.int p4), .val (.int p5), .val (.int d0), .val (.int d1), .val (.int d2), .val (.int c0), .val (.int c1), .val (.int c2), .val (.int ve), .val (.int c0), .val (.int s2), .val (.int s3), .val (.int base), .val (.ref bz2), .val (.ref bz23), .val (.int (p2 &&& (7 : Int32))), .val (.int q), .val (.ref rb126), .val (.ref rb135), .val (.int c0), .val (.int s2), .val (.int (s2 - c0))] [(.int (1 : Int32))]))
        refine OGo.st (fun _ k_ => XS.ifNo X147.here hx rfl (hb hby at_508) rfl (XT.i0_eq_f (by decide)) k_) ?_
        show OGo p.tables e below _ (T147.setTop (mkF m 511 #[.val (.int p0), .val (.int p1), .val (.int p2), .val (.int p3), .val (.int p4), .val (.int p5), .val (.int d0), .val (.int d1), .val (.int d2), .val (.int c0), .val (.int c1), .val (.int c2), .val (.int ve), .val (.int c0), .val (.int s2), .val (.int s3), .val (.int base), .val (.ref bz2), .val (.ref bz23), .val (.int (p2 &&& (7 : Int32))), .val (.int q), .val (.ref rb126), .val (.ref rb135), .val (.int c0), .val (.int s2), .val (.int (s2 - c0))] []))
        refine OGo.st (fun _ k_ => XS.aload X147.here hx rfl (hb hby at_511) rfl rfl k_) ?_
        show OGo p.tables e below _ (T147.setTop (mkF m 513 #[.val (.int p0), .val (.int p1), .val (.int p2), .val (.int p3), .val (.int p4), .val (.int p5), .val (.int d0), .val (.int d1), .val (.int d2), .val (.int c0), .val (.int c1), .val (.int c2), .val (.int ve), .val (.int c0), .val (.int s2), .val (.int s3), .val (.int base), .val (.ref bz2), .val (.ref bz23), .val (.int (p2 &&& (7 : Int32))), .val (.int q), .val (.ref rb126), .val (.ref rb135), .val (.int c0), .val (.int s2), .val (.int (s2 - c0))] [(.ref rb135)]))
        refine OGo.st (fun _ k_ => XS.aload X147.here hx rfl (hb hby at_513) rfl rfl k_) ?_
        show OGo p.tables e below _ (T147.setTop (mkF m 515 #[.val (.int p0), .val (.int p1), .val (.int p2), .val (.int p3), .val (.int p4), .val (.int p5), .val (.int d0), .val (.int d1), .val (.int d2), .val (.int c0), .val (.int c1), .val (.int c2), .val (.int ve), .val (.int c0), .val (.int s2), .val (.int s3), .val (.int base), .val (.ref bz2), .val (.ref bz23), .val (.int (p2 &&& (7 : Int32))), .val (.int q), .val (.ref rb126), .val (.ref rb135), .val (.int c0), .val (.int s2), .val (.int (s2 - c0))] [(.ref bz2), (.ref rb135)]))
        refine OGo.st (fun _ k_ => XS.iload X147.here hx rfl (hb hby at_515) rfl k_) ?_
        show OGo p.tables e below _ (T147.setTop (mkF m 517 #[.val (.int p0), .val (.int p1), .val (.int p2), .val (.int p3), .val (.int p4), .val (.int p5), .val (.int d0), .val (.int d1), .val (.int d2), .val (.int c0), .val (.int c1), .val (.int c2), .val (.int ve), .val (.int c0), .val (.int s2), .val (.int s3), .val (.int base), .val (.ref bz2), .val (.ref bz23), .val (.int (p2 &&& (7 : Int32))), .val (.int q), .val (.ref rb126), .val (.ref rb135), .val (.int c0), .val (.int s2), .val (.int (s2 - c0))] [(.int c0), (.ref bz2), (.ref rb135)]))
        refine OGo.st (fun _ k_ => XS.iload X147.here hx rfl (hb hby at_517) rfl k_) ?_
        show OGo p.tables e below _ (T147.setTop (mkF m 519 #[.val (.int p0), .val (.int p1), .val (.int p2), .val (.int p3), .val (.int p4), .val (.int p5), .val (.int d0), .val (.int d1), .val (.int d2), .val (.int c0), .val (.int c1), .val (.int c2), .val (.int ve), .val (.int c0), .val (.int s2), .val (.int s3), .val (.int base), .val (.ref bz2), .val (.ref bz23), .val (.int (p2 &&& (7 : Int32))), .val (.int q), .val (.ref rb126), .val (.ref rb135), .val (.int c0), .val (.int s2), .val (.int (s2 - c0))] [(.int (s2 - c0)), (.int c0), (.ref bz2), (.ref rb135)]))
        obtain ⟨_, _, ⟨T148, Lz148, kz148, nz148⟩, -, X148, ⟨Lc148, hQ148, lz148, yz148, zz148⟩, st148⟩ := Jvm.LawKit.callS X147 hx (y := (⟨"com/example/cari/cari/index/PositionsInPinLaw", "same", "([I[III)Z"⟩ : MethodName)) hown (mvT hZ (hw _ (List.mem_of_getElem? (i := 46) rfl))) (mvT hZ (hw _ (List.mem_of_getElem? (i := 47) rfl))) (mvT hZ (hw _ (List.mem_of_getElem? (i := 48) rfl))) (mvT hZ (hw _ (List.mem_of_getElem? (i := 49) rfl))) (by decide) (backOf (W := 0) (rm15 l Z a0 hw [] rb135 bz2 c0 (s2 - c0) kr135 kz2 (own_9 base) (fun i => own_P (own_9 base) (c0.toNatClampNeg + i)) T135.heap n0 (Nat.le_trans Z0 K_144.1) Ar135 Af_136 (fun _ _ => rfl) (own_ok9 hs.2.1)) hZ (hw _ (List.mem_of_getElem? (i := 49) rfl)) (hw _ (List.mem_of_getElem? (i := 48) rfl)) (by decide) (by decide)) (g := (mkF m 519 #[.val (.int p0), .val (.int p1), .val (.int p2), .val (.int p3), .val (.int p4), .val (.int p5), .val (.int d0), .val (.int d1), .val (.int d2), .val (.int c0), .val (.int c1), .val (.int c2), .val (.int ve), .val (.int c0), .val (.int s2), .val (.int s3), .val (.int base), .val (.ref bz2), .val (.ref bz23), .val (.int (p2 &&& (7 : Int32))), .val (.int q), .val (.ref rb126), .val (.ref rb135), .val (.int c0), .val (.int s2), .val (.int (s2 - c0))] [(.int (s2 - c0)), (.int c0), (.ref bz2), (.ref rb135)])) rfl (by rw [hml]; rfl) (argsL := [(.ref rb135), (.ref bz2), (.int c0), (.int (s2 - c0))]) (rest := []) (lenOf own_pd7 rfl) rfl (by show 2 * 0 + _ ≤ _; exact Nat.le_of_eq rfl) (hb hby at_519) (fun _ _ => ⟨rfl, ez147, (by decide : 6 + 0 ≤ _), (by decide : 25 + 0 ≤ _)⟩)
        dsimp only [Pt.U, Pt.locs, Pt.cells, Pt.slots] at X148 lz148 yz148 zz148 st148 hQ148
        have X148 := own_reb X148 lz148 yz148 zz148
        have X148 : Stand p l e room_1 s m #[(.int p0), (.int p1), (.int p2), (.int p3), (.int p4), (.int p5)] below meth c T148 _ 6 25 := X148
        obtain ⟨hvq148, Nq148, ez148⟩ := hQ148
        rw [hvq148] at st148
        have N148 := Fr.app N147 Nq148
        refine OGo.st st148 ?_
        show OGo p.tables e below _ (T148.setTop (mkF m 522 #[.val (.int p0), .val (.int p1), .val (.int p2), .val (.int p3), .val (.int p4), .val (.int p5), .val (.int d0), .val (.int d1), .val (.int d2), .val (.int c0), .val (.int c1), .val (.int c2), .val (.int ve), .val (.int c0), .val (.int s2), .val (.int s3), .val (.int base), .val (.ref bz2), .val (.ref bz23), .val (.int (p2 &&& (7 : Int32))), .val (.int q), .val (.ref rb126), .val (.ref rb135), .val (.int c0), .val (.int s2), .val (.int (s2 - c0))] [(.int (1 : Int32))]))
        refine OGo.st (fun _ k_ => XS.ifNo X148.here hx rfl (hb hby at_522) rfl (XT.i0_eq_f (by decide)) k_) ?_
        show OGo p.tables e below _ (T148.setTop (mkF m 525 #[.val (.int p0), .val (.int p1), .val (.int p2), .val (.int p3), .val (.int p4), .val (.int p5), .val (.int d0), .val (.int d1), .val (.int d2), .val (.int c0), .val (.int c1), .val (.int c2), .val (.int ve), .val (.int c0), .val (.int s2), .val (.int s3), .val (.int base), .val (.ref bz2), .val (.ref bz23), .val (.int (p2 &&& (7 : Int32))), .val (.int q), .val (.ref rb126), .val (.ref rb135), .val (.int c0), .val (.int s2), .val (.int (s2 - c0))] []))
        refine OGo.st (fun _ k_ => XS.iconst X148.here hx rfl (hb hby at_525) k_) ?_
        show OGo p.tables e below _ (T148.setTop (mkF m 526 #[.val (.int p0), .val (.int p1), .val (.int p2), .val (.int p3), .val (.int p4), .val (.int p5), .val (.int d0), .val (.int d1), .val (.int d2), .val (.int c0), .val (.int c1), .val (.int c2), .val (.int ve), .val (.int c0), .val (.int s2), .val (.int s3), .val (.int base), .val (.ref bz2), .val (.ref bz23), .val (.int (p2 &&& (7 : Int32))), .val (.int q), .val (.ref rb126), .val (.ref rb135), .val (.int c0), .val (.int s2), .val (.int (s2 - c0))] [(.int (1 : Int32))]))
        refine OGo.st (fun _ k_ => XS.goto X148.here hx rfl (pc0 := 526) (pc' := 530) rfl (hb hby at_526) (by decide) (by decide) k_) ?_
        show OGo p.tables e below _ (T148.setTop (mkF m 530 #[.val (.int p0), .val (.int p1), .val (.int p2), .val (.int p3), .val (.int p4), .val (.int p5), .val (.int d0), .val (.int d1), .val (.int d2), .val (.int c0), .val (.int c1), .val (.int c2), .val (.int ve), .val (.int c0), .val (.int s2), .val (.int s3), .val (.int base), .val (.ref bz2), .val (.ref bz23), .val (.int (p2 &&& (7 : Int32))), .val (.int q), .val (.ref rb126), .val (.ref rb135), .val (.int c0), .val (.int s2), .val (.int (s2 - c0))] [(.int (1 : Int32))]))
        refine OGo.fin X148 (v := some (.int (1 : Int32))) (fun h => by rw [Bd.returns] at h; cases h) hlk (fun fs hr => X148.ireturnOut hx Bd.returns rfl (by simp) (hb hby at_530) hr) ?_ (by decide) (by decide)
        show own_Q_rm0 Z p0 p1 p2 p3 p4 p5 h0 n0 _ T148.heap _
        rw [ez148]
        exact ⟨rfl, N148⟩
      · by_cases e2_ : q = d2
        · skip
          show OGo p.tables e below _ (T96.setTop (mkF m 367 #[.val (.int p0), .val (.int p1), .val (.int p2), .val (.int p3), .val (.int p4), .val (.int p5), .val (.int d0), .val (.int d1), .val (.int d2), .val (.int c0), .val (.int c1), .val (.int c2), .val (.int ve), .val (.int c0), .val (.int s2), .val (.int s3), .val (.int base), .val (.ref bz2), .val (.ref bz23), .val (.int (p2 &&& (7 : Int32))), .val (.int q), .unset, .unset, .unset, .unset, .unset] []))
          refine OGo.st (fun _ k_ => XS.aload X96.here hx rfl (hb hby at_367) rfl rfl k_) ?_
          show OGo p.tables e below _ (T96.setTop (mkF m 369 #[.val (.int p0), .val (.int p1), .val (.int p2), .val (.int p3), .val (.int p4), .val (.int p5), .val (.int d0), .val (.int d1), .val (.int d2), .val (.int c0), .val (.int c1), .val (.int c2), .val (.int ve), .val (.int c0), .val (.int s2), .val (.int s3), .val (.int base), .val (.ref bz2), .val (.ref bz23), .val (.int (p2 &&& (7 : Int32))), .val (.int q), .unset, .unset, .unset, .unset, .unset] [(.ref bz23)]))
          refine OGo.st (fun _ k_ => XS.iload X96.here hx rfl (hb hby at_369) rfl k_) ?_
          show OGo p.tables e below _ (T96.setTop (mkF m 371 #[.val (.int p0), .val (.int p1), .val (.int p2), .val (.int p3), .val (.int p4), .val (.int p5), .val (.int d0), .val (.int d1), .val (.int d2), .val (.int c0), .val (.int c1), .val (.int c2), .val (.int ve), .val (.int c0), .val (.int s2), .val (.int s3), .val (.int base), .val (.ref bz2), .val (.ref bz23), .val (.int (p2 &&& (7 : Int32))), .val (.int q), .unset, .unset, .unset, .unset, .unset] [(.int q), (.ref bz23)]))
          obtain ⟨cq149, kqz149, qz149a, qz149b, qz149c⟩ := isOf hZ rfl Ex_98
          obtain ⟨_, _, ⟨T149, Lz149, kz149, nz149⟩, -, X149, ⟨Lc149, hQ149, lz149, yz149, zz149⟩, st149⟩ := X96.virtualBack hx (y := (⟨"com/example/cari/cari/index/Positions", "in", "(I)[I"⟩ : MethodName)) (z := (⟨"com/example/cari/cari/index/Positions", "in", "(I)[I"⟩ : MethodName)) hown (mvT hZ (hw _ (List.mem_of_getElem? (i := 17) rfl))) (mvT hZ (hw _ (List.mem_of_getElem? (i := 18) rfl))) (notFace_of_selects (args := #[]) (mvT hZ (hw _ (List.mem_of_getElem? (i := 20) rfl)))) (mvT hZ (hw _ (List.mem_of_getElem? (i := 20) rfl))) (mvT hZ (hw _ (List.mem_of_getElem? (i := 19) rfl))) (by decide) (backOf (W := 0) (rm12 l Z a0 hw [] bz23 q bz26 bz55 bz2 kz26 kz55 kz2 d0 d1 d2 c0 s2 s3 (own_9 base) T96.heap n0 (Nat.le_trans Z0 K_101.1) qz96_0 qz96_1 qz96_2 Af_99 Af_100 Af_97 (own_b2 hd e2_) hs.2.2) hZ (hw _ (List.mem_of_getElem? (i := 21) rfl)) (hw _ (List.mem_of_getElem? (i := 4) rfl)) (by decide) (by decide)) qz149a qz149c (g := (mkF m 371 #[.val (.int p0), .val (.int p1), .val (.int p2), .val (.int p3), .val (.int p4), .val (.int p5), .val (.int d0), .val (.int d1), .val (.int d2), .val (.int c0), .val (.int c1), .val (.int c2), .val (.int ve), .val (.int c0), .val (.int s2), .val (.int s3), .val (.int base), .val (.ref bz2), .val (.ref bz23), .val (.int (p2 &&& (7 : Int32))), .val (.int q), .unset, .unset, .unset, .unset, .unset] [(.int q), (.ref bz23)])) rfl (by rw [hml]; rfl) (Steps.refl _) (argsL := [(.int q)]) (rest := []) (lenOf own_pd6 rfl) rfl (by show 2 * 0 + _ ≤ _; exact Nat.le_of_eq rfl) (hb hby at_371) (fun _ _ => ⟨rfl, rfl, (by decide : 4 + 1 ≤ _), (by decide : 19 + 3 ≤ _)⟩)
          dsimp only [Pt.U, Pt.locs, Pt.cells, Pt.slots] at X149 lz149 yz149 zz149 st149 hQ149
          have X149 := own_reb X149 lz149 yz149 zz149
          have X149 : Stand p l e room_1 s m #[(.int p0), (.int p1), (.int p2), (.int p3), (.int p4), (.int p5)] below meth c T149 _ 5 22 := X149
          obtain ⟨rb149, kr149, rfl, Nq149, Kq149, szr149, Ar149⟩ := hQ149
          have N149 := Fr.app N96 Nq149
          have ne_bz2_rb149 : bz2 ≠ rb149 := Nat.ne_of_lt (Nat.lt_of_lt_of_le Af_97.lt szr149)
          have ne_bz23_rb149 : bz23 ≠ rb149 := Nat.ne_of_lt (Nat.lt_of_lt_of_le Ex_98.lt szr149)
          have ne_bz26_rb149 : bz26 ≠ rb149 := Nat.ne_of_lt (Nat.lt_of_lt_of_le Af_99.lt szr149)
          have ne_bz55_rb149 : bz55 ≠ rb149 := Nat.ne_of_lt (Nat.lt_of_lt_of_le Af_100.lt szr149)
          have g_rb149 : n0 ≤ rb149 := Nat.le_trans (Nat.le_trans Z0 K_101.1) szr149
          have sz_rb149 : h0.size ≤ rb149 := Nat.le_trans K_101.1 szr149
          have Af_150 := Af_97.keep Kq149 nin0
          have Ex_151 := Ex_98.keep Kq149
          have Af_152 := Af_99.keep Kq149 nin0
          have Af_153 := Af_100.keep Kq149 nin0
          have F_154 := qz96_0.keep Kq149 nin0
          have F_155 := qz96_1.keep Kq149 nin0
          have F_156 := qz96_2.keep Kq149 nin0
          have K_157 : Keep h0 T149.heap [] := K_101.trans Kq149 all0
          refine OGo.tr st149 ?_
          show OGo p.tables e below _ (T149.setTop (mkF m 374 #[.val (.int p0), .val (.int p1), .val (.int p2), .val (.int p3), .val (.int p4), .val (.int p5), .val (.int d0), .val (.int d1), .val (.int d2), .val (.int c0), .val (.int c1), .val (.int c2), .val (.int ve), .val (.int c0), .val (.int s2), .val (.int s3), .val (.int base), .val (.ref bz2), .val (.ref bz23), .val (.int (p2 &&& (7 : Int32))), .val (.int q), .unset, .unset, .unset, .unset, .unset] [(.ref rb149)]))
          refine OGo.st (fun _ k_ => XS.astore X149.here hx rfl (hb hby at_374) rfl rfl (l' := #[.val (.int p0), .val (.int p1), .val (.int p2), .val (.int p3), .val (.int p4), .val (.int p5), .val (.int d0), .val (.int d1), .val (.int d2), .val (.int c0), .val (.int c1), .val (.int c2), .val (.int ve), .val (.int c0), .val (.int s2), .val (.int s3), .val (.int base), .val (.ref bz2), .val (.ref bz23), .val (.int (p2 &&& (7 : Int32))), .val (.int q), .val (.ref rb149), .unset, .unset, .unset, .unset]) rfl k_) ?_
          show OGo p.tables e below _ (T149.setTop (mkF m 376 #[.val (.int p0), .val (.int p1), .val (.int p2), .val (.int p3), .val (.int p4), .val (.int p5), .val (.int d0), .val (.int d1), .val (.int d2), .val (.int c0), .val (.int c1), .val (.int c2), .val (.int ve), .val (.int c0), .val (.int s2), .val (.int s3), .val (.int base), .val (.ref bz2), .val (.ref bz23), .val (.int (p2 &&& (7 : Int32))), .val (.int q), .val (.ref rb149), .unset, .unset, .unset, .unset] []))
          refine OGo.st (fun _ k_ => XS.aload X149.here hx rfl (hb hby at_376) rfl rfl k_) ?_
          show OGo p.tables e below _ (T149.setTop (mkF m 378 #[.val (.int p0), .val (.int p1), .val (.int p2), .val (.int p3), .val (.int p4), .val (.int p5), .val (.int d0), .val (.int d1), .val (.int d2), .val (.int c0), .val (.int c1), .val (.int c2), .val (.int ve), .val (.int c0), .val (.int s2), .val (.int s3), .val (.int base), .val (.ref bz2), .val (.ref bz23), .val (.int (p2 &&& (7 : Int32))), .val (.int q), .val (.ref rb149), .unset, .unset, .unset, .unset] [(.ref bz23)]))
          refine OGo.st (fun _ k_ => XS.iload X149.here hx rfl (hb hby at_378) rfl k_) ?_
          show OGo p.tables e below _ (T149.setTop (mkF m 380 #[.val (.int p0), .val (.int p1), .val (.int p2), .val (.int p3), .val (.int p4), .val (.int p5), .val (.int d0), .val (.int d1), .val (.int d2), .val (.int c0), .val (.int c1), .val (.int c2), .val (.int ve), .val (.int c0), .val (.int s2), .val (.int s3), .val (.int base), .val (.ref bz2), .val (.ref bz23), .val (.int (p2 &&& (7 : Int32))), .val (.int q), .val (.ref rb149), .unset, .unset, .unset, .unset] [(.int q), (.ref bz23)]))
          obtain ⟨cq158, kqz158, qz158a, qz158b, qz158c⟩ := isOf hZ rfl Ex_151
          obtain ⟨_, _, ⟨T158, Lz158, kz158, nz158⟩, -, X158, ⟨Lc158, hQ158, lz158, yz158, zz158⟩, st158⟩ := X149.virtualBack hx (y := (⟨"com/example/cari/cari/index/Positions", "in", "(I)[I"⟩ : MethodName)) (z := (⟨"com/example/cari/cari/index/Positions", "in", "(I)[I"⟩ : MethodName)) hown (mvT hZ (hw _ (List.mem_of_getElem? (i := 17) rfl))) (mvT hZ (hw _ (List.mem_of_getElem? (i := 18) rfl))) (notFace_of_selects (args := #[]) (mvT hZ (hw _ (List.mem_of_getElem? (i := 20) rfl)))) (mvT hZ (hw _ (List.mem_of_getElem? (i := 20) rfl))) (mvT hZ (hw _ (List.mem_of_getElem? (i := 19) rfl))) (by decide) (backOf (W := 0) (rm12 l Z a0 hw [] bz23 q bz26 bz55 bz2 kz26 kz55 kz2 d0 d1 d2 c0 s2 s3 (own_9 base) T149.heap n0 (Nat.le_trans Z0 K_157.1) F_154 F_155 F_156 Af_152 Af_153 Af_150 (own_b2 hd e2_) hs.2.2) hZ (hw _ (List.mem_of_getElem? (i := 21) rfl)) (hw _ (List.mem_of_getElem? (i := 4) rfl)) (by decide) (by decide)) qz158a qz158c (g := (mkF m 380 #[.val (.int p0), .val (.int p1), .val (.int p2), .val (.int p3), .val (.int p4), .val (.int p5), .val (.int d0), .val (.int d1), .val (.int d2), .val (.int c0), .val (.int c1), .val (.int c2), .val (.int ve), .val (.int c0), .val (.int s2), .val (.int s3), .val (.int base), .val (.ref bz2), .val (.ref bz23), .val (.int (p2 &&& (7 : Int32))), .val (.int q), .val (.ref rb149), .unset, .unset, .unset, .unset] [(.int q), (.ref bz23)])) rfl (by rw [hml]; rfl) (Steps.refl _) (argsL := [(.int q)]) (rest := []) (lenOf own_pd6 rfl) rfl (by show 2 * 0 + _ ≤ _; exact Nat.le_of_eq rfl) (hb hby at_380) (fun _ _ => ⟨rfl, rfl, (by decide : 5 + 1 ≤ _), (by decide : 22 + 3 ≤ _)⟩)
          dsimp only [Pt.U, Pt.locs, Pt.cells, Pt.slots] at X158 lz158 yz158 zz158 st158 hQ158
          have X158 := own_reb X158 lz158 yz158 zz158
          have X158 : Stand p l e room_1 s m #[(.int p0), (.int p1), (.int p2), (.int p3), (.int p4), (.int p5)] below meth c T158 _ 6 25 := X158
          obtain ⟨rb158, kr158, rfl, Nq158, Kq158, szr158, Ar158⟩ := hQ158
          have N158 := Fr.app N149 Nq158
          have ne_bz2_rb158 : bz2 ≠ rb158 := Nat.ne_of_lt (Nat.lt_of_lt_of_le Af_150.lt szr158)
          have ne_bz23_rb158 : bz23 ≠ rb158 := Nat.ne_of_lt (Nat.lt_of_lt_of_le Ex_151.lt szr158)
          have ne_bz26_rb158 : bz26 ≠ rb158 := Nat.ne_of_lt (Nat.lt_of_lt_of_le Af_152.lt szr158)
          have ne_bz55_rb158 : bz55 ≠ rb158 := Nat.ne_of_lt (Nat.lt_of_lt_of_le Af_153.lt szr158)
          have ne_rb149_rb158 : rb149 ≠ rb158 := Nat.ne_of_lt (Nat.lt_of_lt_of_le Ar149.lt szr158)
          have g_rb158 : n0 ≤ rb158 := Nat.le_trans (Nat.le_trans Z0 K_157.1) szr158
          have sz_rb158 : h0.size ≤ rb158 := Nat.le_trans K_157.1 szr158
          have Af_159 := Af_150.keep Kq158 nin0
          have Ex_160 := Ex_151.keep Kq158
          have Af_161 := Af_152.keep Kq158 nin0
          have Af_162 := Af_153.keep Kq158 nin0
          have F_163 := F_154.keep Kq158 nin0
          have F_164 := F_155.keep Kq158 nin0
          have F_165 := F_156.keep Kq158 nin0
          have Af_166 := Ar149.keep Kq158 nin0
          have K_167 : Keep h0 T158.heap [] := K_157.trans Kq158 all0
          refine OGo.tr st158 ?_
          show OGo p.tables e below _ (T158.setTop (mkF m 383 #[.val (.int p0), .val (.int p1), .val (.int p2), .val (.int p3), .val (.int p4), .val (.int p5), .val (.int d0), .val (.int d1), .val (.int d2), .val (.int c0), .val (.int c1), .val (.int c2), .val (.int ve), .val (.int c0), .val (.int s2), .val (.int s3), .val (.int base), .val (.ref bz2), .val (.ref bz23), .val (.int (p2 &&& (7 : Int32))), .val (.int q), .val (.ref rb149), .unset, .unset, .unset, .unset] [(.ref rb158)]))
          refine OGo.st (fun _ k_ => XS.astore X158.here hx rfl (hb hby at_383) rfl rfl (l' := #[.val (.int p0), .val (.int p1), .val (.int p2), .val (.int p3), .val (.int p4), .val (.int p5), .val (.int d0), .val (.int d1), .val (.int d2), .val (.int c0), .val (.int c1), .val (.int c2), .val (.int ve), .val (.int c0), .val (.int s2), .val (.int s3), .val (.int base), .val (.ref bz2), .val (.ref bz23), .val (.int (p2 &&& (7 : Int32))), .val (.int q), .val (.ref rb149), .val (.ref rb158), .unset, .unset, .unset]) rfl k_) ?_
          show OGo p.tables e below _ (T158.setTop (mkF m 385 #[.val (.int p0), .val (.int p1), .val (.int p2), .val (.int p3), .val (.int p4), .val (.int p5), .val (.int d0), .val (.int d1), .val (.int d2), .val (.int c0), .val (.int c1), .val (.int c2), .val (.int ve), .val (.int c0), .val (.int s2), .val (.int s3), .val (.int base), .val (.ref bz2), .val (.ref bz23), .val (.int (p2 &&& (7 : Int32))), .val (.int q), .val (.ref rb149), .val (.ref rb158), .unset, .unset, .unset] []))
          refine OGo.st (fun _ k_ => XS.iconst X158.here hx rfl (hb hby at_385) k_) ?_
          show OGo p.tables e below _ (T158.setTop (mkF m 386 #[.val (.int p0), .val (.int p1), .val (.int p2), .val (.int p3), .val (.int p4), .val (.int p5), .val (.int d0), .val (.int d1), .val (.int d2), .val (.int c0), .val (.int c1), .val (.int c2), .val (.int ve), .val (.int c0), .val (.int s2), .val (.int s3), .val (.int base), .val (.ref bz2), .val (.ref bz23), .val (.int (p2 &&& (7 : Int32))), .val (.int q), .val (.ref rb149), .val (.ref rb158), .unset, .unset, .unset] [(.int (0 : Int32))]))
          refine OGo.st (fun _ k_ => XS.istore X158.here hx rfl (hb hby at_386) rfl (l' := #[.val (.int p0), .val (.int p1), .val (.int p2), .val (.int p3), .val (.int p4), .val (.int p5), .val (.int d0), .val (.int d1), .val (.int d2), .val (.int c0), .val (.int c1), .val (.int c2), .val (.int ve), .val (.int c0), .val (.int s2), .val (.int s3), .val (.int base), .val (.ref bz2), .val (.ref bz23), .val (.int (p2 &&& (7 : Int32))), .val (.int q), .val (.ref rb149), .val (.ref rb158), .val (.int (0 : Int32)), .unset, .unset]) rfl k_) ?_
          show OGo p.tables e below _ (T158.setTop (mkF m 388 #[.val (.int p0), .val (.int p1), .val (.int p2), .val (.int p3), .val (.int p4), .val (.int p5), .val (.int d0), .val (.int d1), .val (.int d2), .val (.int c0), .val (.int c1), .val (.int c2), .val (.int ve), .val (.int c0), .val (.int s2), .val (.int s3), .val (.int base), .val (.ref bz2), .val (.ref bz23), .val (.int (p2 &&& (7 : Int32))), .val (.int q), .val (.ref rb149), .val (.ref rb158), .val (.int (0 : Int32)), .unset, .unset] []))
          refine OGo.st (fun _ k_ => XS.iconst X158.here hx rfl (hb hby at_388) k_) ?_
          show OGo p.tables e below _ (T158.setTop (mkF m 389 #[.val (.int p0), .val (.int p1), .val (.int p2), .val (.int p3), .val (.int p4), .val (.int p5), .val (.int d0), .val (.int d1), .val (.int d2), .val (.int c0), .val (.int c1), .val (.int c2), .val (.int ve), .val (.int c0), .val (.int s2), .val (.int s3), .val (.int base), .val (.ref bz2), .val (.ref bz23), .val (.int (p2 &&& (7 : Int32))), .val (.int q), .val (.ref rb149), .val (.ref rb158), .val (.int (0 : Int32)), .unset, .unset] [(.int (0 : Int32))]))
          refine OGo.st (fun _ k_ => XS.istore X158.here hx rfl (hb hby at_389) rfl (l' := #[.val (.int p0), .val (.int p1), .val (.int p2), .val (.int p3), .val (.int p4), .val (.int p5), .val (.int d0), .val (.int d1), .val (.int d2), .val (.int c0), .val (.int c1), .val (.int c2), .val (.int ve), .val (.int c0), .val (.int s2), .val (.int s3), .val (.int base), .val (.ref bz2), .val (.ref bz23), .val (.int (p2 &&& (7 : Int32))), .val (.int q), .val (.ref rb149), .val (.ref rb158), .val (.int (0 : Int32)), .val (.int (0 : Int32)), .unset]) rfl k_) ?_
          show OGo p.tables e below _ (T158.setTop (mkF m 391 #[.val (.int p0), .val (.int p1), .val (.int p2), .val (.int p3), .val (.int p4), .val (.int p5), .val (.int d0), .val (.int d1), .val (.int d2), .val (.int c0), .val (.int c1), .val (.int c2), .val (.int ve), .val (.int c0), .val (.int s2), .val (.int s3), .val (.int base), .val (.ref bz2), .val (.ref bz23), .val (.int (p2 &&& (7 : Int32))), .val (.int q), .val (.ref rb149), .val (.ref rb158), .val (.int (0 : Int32)), .val (.int (0 : Int32)), .unset] []))
          refine OGo.st (fun _ k_ => XS.iload X158.here hx rfl (hb hby at_391) rfl k_) ?_
          show OGo p.tables e below _ (T158.setTop (mkF m 393 #[.val (.int p0), .val (.int p1), .val (.int p2), .val (.int p3), .val (.int p4), .val (.int p5), .val (.int d0), .val (.int d1), .val (.int d2), .val (.int c0), .val (.int c1), .val (.int c2), .val (.int ve), .val (.int c0), .val (.int s2), .val (.int s3), .val (.int base), .val (.ref bz2), .val (.ref bz23), .val (.int (p2 &&& (7 : Int32))), .val (.int q), .val (.ref rb149), .val (.ref rb158), .val (.int (0 : Int32)), .val (.int (0 : Int32)), .unset] [(.int ve)]))
          refine OGo.st (fun _ k_ => XS.ifNo X158.here hx rfl (hb hby at_393) rfl (XT.i0_ne_f hem) k_) ?_
          show OGo p.tables e below _ (T158.setTop (mkF m 396 #[.val (.int p0), .val (.int p1), .val (.int p2), .val (.int p3), .val (.int p4), .val (.int p5), .val (.int d0), .val (.int d1), .val (.int d2), .val (.int c0), .val (.int c1), .val (.int c2), .val (.int ve), .val (.int c0), .val (.int s2), .val (.int s3), .val (.int base), .val (.ref bz2), .val (.ref bz23), .val (.int (p2 &&& (7 : Int32))), .val (.int q), .val (.ref rb149), .val (.ref rb158), .val (.int (0 : Int32)), .val (.int (0 : Int32)), .unset] []))
          refine OGo.st (fun _ k_ => XS.iload X158.here hx rfl (hb hby at_396) rfl k_) ?_
          show OGo p.tables e below _ (T158.setTop (mkF m 398 #[.val (.int p0), .val (.int p1), .val (.int p2), .val (.int p3), .val (.int p4), .val (.int p5), .val (.int d0), .val (.int d1), .val (.int d2), .val (.int c0), .val (.int c1), .val (.int c2), .val (.int ve), .val (.int c0), .val (.int s2), .val (.int s3), .val (.int base), .val (.ref bz2), .val (.ref bz23), .val (.int (p2 &&& (7 : Int32))), .val (.int q), .val (.ref rb149), .val (.ref rb158), .val (.int (0 : Int32)), .val (.int (0 : Int32)), .unset] [(.int q)]))
          refine OGo.st (fun _ k_ => XS.iload X158.here hx rfl (hb hby at_398) rfl k_) ?_
          show OGo p.tables e below _ (T158.setTop (mkF m 400 #[.val (.int p0), .val (.int p1), .val (.int p2), .val (.int p3), .val (.int p4), .val (.int p5), .val (.int d0), .val (.int d1), .val (.int d2), .val (.int c0), .val (.int c1), .val (.int c2), .val (.int ve), .val (.int c0), .val (.int s2), .val (.int s3), .val (.int base), .val (.ref bz2), .val (.ref bz23), .val (.int (p2 &&& (7 : Int32))), .val (.int q), .val (.ref rb149), .val (.ref rb158), .val (.int (0 : Int32)), .val (.int (0 : Int32)), .unset] [(.int d0), (.int q)]))
          refine OGo.st (fun _ k_ => XS.icmpYes X158.here hx rfl (pc0 := 400) (pc' := 413) rfl (hb hby at_400) rfl (XT.ii_ne_t e0_) (by decide) (by decide) k_) ?_
          show OGo p.tables e below _ (T158.setTop (mkF m 413 #[.val (.int p0), .val (.int p1), .val (.int p2), .val (.int p3), .val (.int p4), .val (.int p5), .val (.int d0), .val (.int d1), .val (.int d2), .val (.int c0), .val (.int c1), .val (.int c2), .val (.int ve), .val (.int c0), .val (.int s2), .val (.int s3), .val (.int base), .val (.ref bz2), .val (.ref bz23), .val (.int (p2 &&& (7 : Int32))), .val (.int q), .val (.ref rb149), .val (.ref rb158), .val (.int (0 : Int32)), .val (.int (0 : Int32)), .unset] []))
          refine OGo.st (fun _ k_ => XS.iload X158.here hx rfl (hb hby at_413) rfl k_) ?_
          show OGo p.tables e below _ (T158.setTop (mkF m 415 #[.val (.int p0), .val (.int p1), .val (.int p2), .val (.int p3), .val (.int p4), .val (.int p5), .val (.int d0), .val (.int d1), .val (.int d2), .val (.int c0), .val (.int c1), .val (.int c2), .val (.int ve), .val (.int c0), .val (.int s2), .val (.int s3), .val (.int base), .val (.ref bz2), .val (.ref bz23), .val (.int (p2 &&& (7 : Int32))), .val (.int q), .val (.ref rb149), .val (.ref rb158), .val (.int (0 : Int32)), .val (.int (0 : Int32)), .unset] [(.int q)]))
          refine OGo.st (fun _ k_ => XS.iload X158.here hx rfl (hb hby at_415) rfl k_) ?_
          show OGo p.tables e below _ (T158.setTop (mkF m 417 #[.val (.int p0), .val (.int p1), .val (.int p2), .val (.int p3), .val (.int p4), .val (.int p5), .val (.int d0), .val (.int d1), .val (.int d2), .val (.int c0), .val (.int c1), .val (.int c2), .val (.int ve), .val (.int c0), .val (.int s2), .val (.int s3), .val (.int base), .val (.ref bz2), .val (.ref bz23), .val (.int (p2 &&& (7 : Int32))), .val (.int q), .val (.ref rb149), .val (.ref rb158), .val (.int (0 : Int32)), .val (.int (0 : Int32)), .unset] [(.int d1), (.int q)]))
          refine OGo.st (fun _ k_ => XS.icmpYes X158.here hx rfl (pc0 := 417) (pc' := 431) rfl (hb hby at_417) rfl (XT.ii_ne_t e1_) (by decide) (by decide) k_) ?_
          show OGo p.tables e below _ (T158.setTop (mkF m 431 #[.val (.int p0), .val (.int p1), .val (.int p2), .val (.int p3), .val (.int p4), .val (.int p5), .val (.int d0), .val (.int d1), .val (.int d2), .val (.int c0), .val (.int c1), .val (.int c2), .val (.int ve), .val (.int c0), .val (.int s2), .val (.int s3), .val (.int base), .val (.ref bz2), .val (.ref bz23), .val (.int (p2 &&& (7 : Int32))), .val (.int q), .val (.ref rb149), .val (.ref rb158), .val (.int (0 : Int32)), .val (.int (0 : Int32)), .unset] []))
          refine OGo.st (fun _ k_ => XS.iload X158.here hx rfl (hb hby at_431) rfl k_) ?_
          show OGo p.tables e below _ (T158.setTop (mkF m 433 #[.val (.int p0), .val (.int p1), .val (.int p2), .val (.int p3), .val (.int p4), .val (.int p5), .val (.int d0), .val (.int d1), .val (.int d2), .val (.int c0), .val (.int c1), .val (.int c2), .val (.int ve), .val (.int c0), .val (.int s2), .val (.int s3), .val (.int base), .val (.ref bz2), .val (.ref bz23), .val (.int (p2 &&& (7 : Int32))), .val (.int q), .val (.ref rb149), .val (.ref rb158), .val (.int (0 : Int32)), .val (.int (0 : Int32)), .unset] [(.int q)]))
          refine OGo.st (fun _ k_ => XS.iload X158.here hx rfl (hb hby at_433) rfl k_) ?_
          show OGo p.tables e below _ (T158.setTop (mkF m 435 #[.val (.int p0), .val (.int p1), .val (.int p2), .val (.int p3), .val (.int p4), .val (.int p5), .val (.int d0), .val (.int d1), .val (.int d2), .val (.int c0), .val (.int c1), .val (.int c2), .val (.int ve), .val (.int c0), .val (.int s2), .val (.int s3), .val (.int base), .val (.ref bz2), .val (.ref bz23), .val (.int (p2 &&& (7 : Int32))), .val (.int q), .val (.ref rb149), .val (.ref rb158), .val (.int (0 : Int32)), .val (.int (0 : Int32)), .unset] [(.int d2), (.int q)]))
          refine OGo.st (fun _ k_ => XS.icmpNo X158.here hx rfl (hb hby at_435) rfl (XT.ii_ne_f e2_) k_) ?_
          show OGo p.tables e below _ (T158.setTop (mkF m 438 #[.val (.int p0), .val (.int p1), .val (.int p2), .val (.int p3), .val (.int p4), .val (.int p5), .val (.int d0), .val (.int d1), .val (.int d2), .val (.int c0), .val (.int c1), .val (.int c2), .val (.int ve), .val (.int c0), .val (.int s2), .val (.int s3), .val (.int base), .val (.ref bz2), .val (.ref bz23), .val (.int (p2 &&& (7 : Int32))), .val (.int q), .val (.ref rb149), .val (.ref rb158), .val (.int (0 : Int32)), .val (.int (0 : Int32)), .unset] []))
          refine OGo.st (fun _ k_ => XS.iload X158.here hx rfl (hb hby at_438) rfl k_) ?_
          show OGo p.tables e below _ (T158.setTop (mkF m 440 #[.val (.int p0), .val (.int p1), .val (.int p2), .val (.int p3), .val (.int p4), .val (.int p5), .val (.int d0), .val (.int d1), .val (.int d2), .val (.int c0), .val (.int c1), .val (.int c2), .val (.int ve), .val (.int c0), .val (.int s2), .val (.int s3), .val (.int base), .val (.ref bz2), .val (.ref bz23), .val (.int (p2 &&& (7 : Int32))), .val (.int q), .val (.ref rb149), .val (.ref rb158), .val (.int (0 : Int32)), .val (.int (0 : Int32)), .unset] [(.int s2)]))
          refine OGo.st (fun _ k_ => XS.istore X158.here hx rfl (hb hby at_440) rfl (l' := #[.val (.int p0), .val (.int p1), .val (.int p2), .val (.int p3), .val (.int p4), .val (.int p5), .val (.int d0), .val (.int d1), .val (.int d2), .val (.int c0), .val (.int c1), .val (.int c2), .val (.int ve), .val (.int c0), .val (.int s2), .val (.int s3), .val (.int base), .val (.ref bz2), .val (.ref bz23), .val (.int (p2 &&& (7 : Int32))), .val (.int q), .val (.ref rb149), .val (.ref rb158), .val (.int s2), .val (.int (0 : Int32)), .unset]) rfl k_) ?_
          show OGo p.tables e below _ (T158.setTop (mkF m 442 #[.val (.int p0), .val (.int p1), .val (.int p2), .val (.int p3), .val (.int p4), .val (.int p5), .val (.int d0), .val (.int d1), .val (.int d2), .val (.int c0), .val (.int c1), .val (.int c2), .val (.int ve), .val (.int c0), .val (.int s2), .val (.int s3), .val (.int base), .val (.ref bz2), .val (.ref bz23), .val (.int (p2 &&& (7 : Int32))), .val (.int q), .val (.ref rb149), .val (.ref rb158), .val (.int s2), .val (.int (0 : Int32)), .unset] []))
          refine OGo.st (fun _ k_ => XS.iload X158.here hx rfl (hb hby at_442) rfl k_) ?_
          show OGo p.tables e below _ (T158.setTop (mkF m 444 #[.val (.int p0), .val (.int p1), .val (.int p2), .val (.int p3), .val (.int p4), .val (.int p5), .val (.int d0), .val (.int d1), .val (.int d2), .val (.int c0), .val (.int c1), .val (.int c2), .val (.int ve), .val (.int c0), .val (.int s2), .val (.int s3), .val (.int base), .val (.ref bz2), .val (.ref bz23), .val (.int (p2 &&& (7 : Int32))), .val (.int q), .val (.ref rb149), .val (.ref rb158), .val (.int s2), .val (.int (0 : Int32)), .unset] [(.int s3)]))
          refine OGo.st (fun _ k_ => XS.istore X158.here hx rfl (hb hby at_444) rfl (l' := #[.val (.int p0), .val (.int p1), .val (.int p2), .val (.int p3), .val (.int p4), .val (.int p5), .val (.int d0), .val (.int d1), .val (.int d2), .val (.int c0), .val (.int c1), .val (.int c2), .val (.int ve), .val (.int c0), .val (.int s2), .val (.int s3), .val (.int base), .val (.ref bz2), .val (.ref bz23), .val (.int (p2 &&& (7 : Int32))), .val (.int q), .val (.ref rb149), .val (.ref rb158), .val (.int s2), .val (.int s3), .unset]) rfl k_) ?_
          show OGo p.tables e below _ (T158.setTop (mkF m 446 #[.val (.int p0), .val (.int p1), .val (.int p2), .val (.int p3), .val (.int p4), .val (.int p5), .val (.int d0), .val (.int d1), .val (.int d2), .val (.int c0), .val (.int c1), .val (.int c2), .val (.int ve), .val (.int c0), .val (.int s2), .val (.int s3), .val (.int base), .val (.ref bz2), .val (.ref bz23), .val (.int (p2 &&& (7 : Int32))), .val (.int q), .val (.ref rb149), .val (.ref rb158), .val (.int s2), .val (.int s3), .unset] []))
          refine OGo.st (fun _ k_ => XS.iload X158.here hx rfl (hb hby at_446) rfl k_) ?_
          show OGo p.tables e below _ (T158.setTop (mkF m 448 #[.val (.int p0), .val (.int p1), .val (.int p2), .val (.int p3), .val (.int p4), .val (.int p5), .val (.int d0), .val (.int d1), .val (.int d2), .val (.int c0), .val (.int c1), .val (.int c2), .val (.int ve), .val (.int c0), .val (.int s2), .val (.int s3), .val (.int base), .val (.ref bz2), .val (.ref bz23), .val (.int (p2 &&& (7 : Int32))), .val (.int q), .val (.ref rb149), .val (.ref rb158), .val (.int s2), .val (.int s3), .unset] [(.int s3)]))
          refine OGo.st (fun _ k_ => XS.iload X158.here hx rfl (hb hby at_448) rfl k_) ?_
          show OGo p.tables e below _ (T158.setTop (mkF m 450 #[.val (.int p0), .val (.int p1), .val (.int p2), .val (.int p3), .val (.int p4), .val (.int p5), .val (.int d0), .val (.int d1), .val (.int d2), .val (.int c0), .val (.int c1), .val (.int c2), .val (.int ve), .val (.int c0), .val (.int s2), .val (.int s3), .val (.int base), .val (.ref bz2), .val (.ref bz23), .val (.int (p2 &&& (7 : Int32))), .val (.int q), .val (.ref rb149), .val (.ref rb158), .val (.int s2), .val (.int s3), .unset] [(.int s2), (.int s3)]))
          refine OGo.st (fun _ k_ => XS.isub X158.here hx rfl (hb hby at_450) rfl k_) ?_
          show OGo p.tables e below _ (T158.setTop (mkF m 451 #[.val (.int p0), .val (.int p1), .val (.int p2), .val (.int p3), .val (.int p4), .val (.int p5), .val (.int d0), .val (.int d1), .val (.int d2), .val (.int c0), .val (.int c1), .val (.int c2), .val (.int ve), .val (.int c0), .val (.int s2), .val (.int s3), .val (.int base), .val (.ref bz2), .val (.ref bz23), .val (.int (p2 &&& (7 : Int32))), .val (.int q), .val (.ref rb149), .val (.ref rb158), .val (.int s2), .val (.int s3), .unset] [(.int (s3 - s2))]))
          refine OGo.st (fun _ k_ => XS.istore X158.here hx rfl (hb hby at_451) rfl (l' := #[.val (.int p0), .val (.int p1), .val (.int p2), .val (.int p3), .val (.int p4), .val (.int p5), .val (.int d0), .val (.int d1), .val (.int d2), .val (.int c0), .val (.int c1), .val (.int c2), .val (.int ve), .val (.int c0), .val (.int s2), .val (.int s3), .val (.int base), .val (.ref bz2), .val (.ref bz23), .val (.int (p2 &&& (7 : Int32))), .val (.int q), .val (.ref rb149), .val (.ref rb158), .val (.int s2), .val (.int s3), .val (.int (s3 - s2))]) rfl k_) ?_
          show OGo p.tables e below _ (T158.setTop (mkF m 453 #[.val (.int p0), .val (.int p1), .val (.int p2), .val (.int p3), .val (.int p4), .val (.int p5), .val (.int d0), .val (.int d1), .val (.int d2), .val (.int c0), .val (.int c1), .val (.int c2), .val (.int ve), .val (.int c0), .val (.int s2), .val (.int s3), .val (.int base), .val (.ref bz2), .val (.ref bz23), .val (.int (p2 &&& (7 : Int32))), .val (.int q), .val (.ref rb149), .val (.ref rb158), .val (.int s2), .val (.int s3), .val (.int (s3 - s2))] []))
          refine OGo.st (fun _ k_ => XS.aload X158.here hx rfl (hb hby at_453) rfl rfl k_) ?_
          show OGo p.tables e below _ (T158.setTop (mkF m 455 #[.val (.int p0), .val (.int p1), .val (.int p2), .val (.int p3), .val (.int p4), .val (.int p5), .val (.int d0), .val (.int d1), .val (.int d2), .val (.int c0), .val (.int c1), .val (.int c2), .val (.int ve), .val (.int c0), .val (.int s2), .val (.int s3), .val (.int base), .val (.ref bz2), .val (.ref bz23), .val (.int (p2 &&& (7 : Int32))), .val (.int q), .val (.ref rb149), .val (.ref rb158), .val (.int s2), .val (.int s3), .val (.int (s3 - s2))] [(.ref rb149)]))
          refine OGo.st (fun _ k_ => XT.nullNo X158.here hx rfl (hb hby at_455) rfl rfl nofun k_) ?_
          show OGo p.tables e below _ (T158.setTop (mkF m 458 #[.val (.int p0), .val (.int p1), .val (.int p2), .val (.int p3), .val (.int p4), .val (.int p5), .val (.int d0), .val (.int d1), .val (.int d2), .val (.int c0), .val (.int c1), .val (.int c2), .val (.int ve), .val (.int c0), .val (.int s2), .val (.int s3), .val (.int base), .val (.ref bz2), .val (.ref bz23), .val (.int (p2 &&& (7 : Int32))), .val (.int q), .val (.ref rb149), .val (.ref rb158), .val (.int s2), .val (.int s3), .val (.int (s3 - s2))] []))
          refine OGo.st (fun _ k_ => XS.aload X158.here hx rfl (hb hby at_458) rfl rfl k_) ?_
          show OGo p.tables e below _ (T158.setTop (mkF m 460 #[.val (.int p0), .val (.int p1), .val (.int p2), .val (.int p3), .val (.int p4), .val (.int p5), .val (.int d0), .val (.int d1), .val (.int d2), .val (.int c0), .val (.int c1), .val (.int c2), .val (.int ve), .val (.int c0), .val (.int s2), .val (.int s3), .val (.int base), .val (.ref bz2), .val (.ref bz23), .val (.int (p2 &&& (7 : Int32))), .val (.int q), .val (.ref rb149), .val (.ref rb158), .val (.int s2), .val (.int s3), .val (.int (s3 - s2))] [(.ref rb158)]))
          refine OGo.st (fun _ k_ => XT.nullNo X158.here hx rfl (hb hby at_460) rfl rfl nofun k_) ?_
          show OGo p.tables e below _ (T158.setTop (mkF m 463 #[.val (.int p0), .val (.int p1), .val (.int p2), .val (.int p3), .val (.int p4), .val (.int p5), .val (.int d0), .val (.int d1), .val (.int d2), .val (.int c0), .val (.int c1), .val (.int c2), .val (.int ve), .val (.int c0), .val (.int s2), .val (.int s3), .val (.int base), .val (.ref bz2), .val (.ref bz23), .val (.int (p2 &&& (7 : Int32))), .val (.int q), .val (.ref rb149), .val (.ref rb158), .val (.int s2), .val (.int s3), .val (.int (s3 - s2))] []))
          refine OGo.st (fun _ k_ => XS.aload X158.here hx rfl (hb hby at_463) rfl rfl k_) ?_
          show OGo p.tables e below _ (T158.setTop (mkF m 465 #[.val (.int p0), .val (.int p1), .val (.int p2), .val (.int p3), .val (.int p4), .val (.int p5), .val (.int d0), .val (.int d1), .val (.int d2), .val (.int c0), .val (.int c1), .val (.int c2), .val (.int ve), .val (.int c0), .val (.int s2), .val (.int s3), .val (.int base), .val (.ref bz2), .val (.ref bz23), .val (.int (p2 &&& (7 : Int32))), .val (.int q), .val (.ref rb149), .val (.ref rb158), .val (.int s2), .val (.int s3), .val (.int (s3 - s2))] [(.ref rb149)]))
          refine OGo.st (fun _ k_ => XS.aload X158.here hx rfl (hb hby at_465) rfl rfl k_) ?_
          show OGo p.tables e below _ (T158.setTop (mkF m 467 #[.val (.int p0), .val (.int p1), .val (.int p2), .val (.int p3), .val (.int p4), .val (.int p5), .val (.int d0), .val (.int d1), .val (.int d2), .val (.int c0), .val (.int c1), .val (.int c2), .val (.int ve), .val (.int c0), .val (.int s2), .val (.int s3), .val (.int base), .val (.ref bz2), .val (.ref bz23), .val (.int (p2 &&& (7 : Int32))), .val (.int q), .val (.ref rb149), .val (.ref rb158), .val (.int s2), .val (.int s3), .val (.int (s3 - s2))] [(.ref rb158), (.ref rb149)]))
          refine OGo.st (fun _ k_ => XT.acmpNo X158.here hx rfl (hb hby at_467) rfl rfl rfl (XT.aa_eq_f (fun q => ne_rb149_rb158 (Value.ref.inj q))) k_) ?_
          show OGo p.tables e below _ (T158.setTop (mkF m 470 #[.val (.int p0), .val (.int p1), .val (.int p2), .val (.int p3), .val (.int p4), .val (.int p5), .val (.int d0), .val (.int d1), .val (.int d2), .val (.int c0), .val (.int c1), .val (.int c2), .val (.int ve), .val (.int c0), .val (.int s2), .val (.int s3), .val (.int base), .val (.ref bz2), .val (.ref bz23), .val (.int (p2 &&& (7 : Int32))), .val (.int q), .val (.ref rb149), .val (.ref rb158), .val (.int s2), .val (.int s3), .val (.int (s3 - s2))] []))
          refine OGo.st (fun _ k_ => XS.aload X158.here hx rfl (hb hby at_470) rfl rfl k_) ?_
          show OGo p.tables e below _ (T158.setTop (mkF m 472 #[.val (.int p0), .val (.int p1), .val (.int p2), .val (.int p3), .val (.int p4), .val (.int p5), .val (.int d0), .val (.int d1), .val (.int d2), .val (.int c0), .val (.int c1), .val (.int c2), .val (.int ve), .val (.int c0), .val (.int s2), .val (.int s3), .val (.int base), .val (.ref bz2), .val (.ref bz23), .val (.int (p2 &&& (7 : Int32))), .val (.int q), .val (.ref rb149), .val (.ref rb158), .val (.int s2), .val (.int s3), .val (.int (s3 - s2))] [(.ref rb149)]))
          refine OGo.st (fun _ k_ => XS.aload X158.here hx rfl (hb hby at_472) rfl rfl k_) ?_
          show OGo p.tables e below _ (T158.setTop (mkF m 474 #[.val (.int p0), .val (.int p1), .val (.int p2), .val (.int p3), .val (.int p4), .val (.int p5), .val (.int d0), .val (.int d1), .val (.int d2), .val (.int c0), .val (.int c1), .val (.int c2), .val (.int ve), .val (.int c0), .val (.int s2), .val (.int s3), .val (.int base), .val (.ref bz2), .val (.ref bz23), .val (.int (p2 &&& (7 : Int32))), .val (.int q), .val (.ref rb149), .val (.ref rb158), .val (.int s2), .val (.int s3), .val (.int (s3 - s2))] [(.ref bz2), (.ref rb149)]))
          refine OGo.st (fun _ k_ => XT.acmpYes X158.here hx rfl (pc0 := 474) (pc' := 479) rfl (hb hby at_474) rfl rfl rfl (XT.aa_ne_t (fun q => (Ne.symm ne_bz2_rb149) (Value.ref.inj q))) (by decide) (by decide) k_) ?_
          show OGo p.tables e below _ (T158.setTop (mkF m 479 #[.val (.int p0), .val (.int p1), .val (.int p2), .val (.int p3), .val (.int p4), .val (.int p5), .val (.int d0), .val (.int d1), .val (.int d2), .val (.int c0), .val (.int c1), .val (.int c2), .val (.int ve), .val (.int c0), .val (.int s2), .val (.int s3), .val (.int base), .val (.ref bz2), .val (.ref bz23), .val (.int (p2 &&& (7 : Int32))), .val (.int q), .val (.ref rb149), .val (.ref rb158), .val (.int s2), .val (.int s3), .val (.int (s3 - s2))] []))
          refine OGo.st (fun _ k_ => XS.aload X158.here hx rfl (hb hby at_479) rfl rfl k_) ?_
          show OGo p.tables e below _ (T158.setTop (mkF m 481 #[.val (.int p0), .val (.int p1), .val (.int p2), .val (.int p3), .val (.int p4), .val (.int p5), .val (.int d0), .val (.int d1), .val (.int d2), .val (.int c0), .val (.int c1), .val (.int c2), .val (.int ve), .val (.int c0), .val (.int s2), .val (.int s3), .val (.int base), .val (.ref bz2), .val (.ref bz23), .val (.int (p2 &&& (7 : Int32))), .val (.int q), .val (.ref rb149), .val (.ref rb158), .val (.int s2), .val (.int s3), .val (.int (s3 - s2))] [(.ref rb149)]))
          have qz168 := own_alen X158 hx hZ rfl Af_166 (g := (mkF m 481 #[.val (.int p0), .val (.int p1), .val (.int p2), .val (.int p3), .val (.int p4), .val (.int p5), .val (.int d0), .val (.int d1), .val (.int d2), .val (.int c0), .val (.int c1), .val (.int c2), .val (.int ve), .val (.int c0), .val (.int s2), .val (.int s3), .val (.int base), .val (.ref bz2), .val (.ref bz23), .val (.int (p2 &&& (7 : Int32))), .val (.int q), .val (.ref rb149), .val (.ref rb158), .val (.int s2), .val (.int s3), .val (.int (s3 - s2))] [(.ref rb149)])) rfl rfl (hb hby at_481)
          refine OGo.st qz168 ?_
          show OGo p.tables e below _ (T158.setTop (mkF m 482 #[.val (.int p0), .val (.int p1), .val (.int p2), .val (.int p3), .val (.int p4), .val (.int p5), .val (.int d0), .val (.int d1), .val (.int d2), .val (.int c0), .val (.int c1), .val (.int c2), .val (.int ve), .val (.int c0), .val (.int s2), .val (.int s3), .val (.int base), .val (.ref bz2), .val (.ref bz23), .val (.int (p2 &&& (7 : Int32))), .val (.int q), .val (.ref rb149), .val (.ref rb158), .val (.int s2), .val (.int s3), .val (.int (s3 - s2))] [(.int (s3 - s2))]))
          refine OGo.st (fun _ k_ => XS.iload X158.here hx rfl (hb hby at_482) rfl k_) ?_
          show OGo p.tables e below _ (T158.setTop (mkF m 484 #[.val (.int p0), .val (.int p1), .val (.int p2), .val (.int p3), .val (.int p4), .val (.int p5), .val (.int d0), .val (.int d1), .val (.int d2), .val (.int c0), .val (.int c1), .val (.int c2), .val (.int ve), .val (.int c0), .val (.int s2), .val (.int s3), .val (.int base), .val (.ref bz2), .val (.ref bz23), .val (.int (p2 &&& (7 : Int32))), .val (.int q), .val (.ref rb149), .val (.ref rb158), .val (.int s2), .val (.int s3), .val (.int (s3 - s2))] [(.int (s3 - s2)), (.int (s3 - s2))]))
          refine OGo.st (fun _ k_ => XS.icmpNo X158.here hx rfl (hb hby at_484) rfl (XT.ii_ne_f rfl) k_) ?_
          show OGo p.tables e below _ (T158.setTop (mkF m 487 #[.val (.int p0), .val (.int p1), .val (.int p2), .val (.int p3), .val (.int p4), .val (.int p5), .val (.int d0), .val (.int d1), .val (.int d2), .val (.int c0), .val (.int c1), .val (.int c2), .val (.int ve), .val (.int c0), .val (.int s2), .val (.int s3), .val (.int base), .val (.ref bz2), .val (.ref bz23), .val (.int (p2 &&& (7 : Int32))), .val (.int q), .val (.ref rb149), .val (.ref rb158), .val (.int s2), .val (.int s3), .val (.int (s3 - s2))] []))
          refine OGo.st (fun _ k_ => XS.aload X158.here hx rfl (hb hby at_487) rfl rfl k_) ?_
          show OGo p.tables e below _ (T158.setTop (mkF m 489 #[.val (.int p0), .val (.int p1), .val (.int p2), .val (.int p3), .val (.int p4), .val (.int p5), .val (.int d0), .val (.int d1), .val (.int d2), .val (.int c0), .val (.int c1), .val (.int c2), .val (.int ve), .val (.int c0), .val (.int s2), .val (.int s3), .val (.int base), .val (.ref bz2), .val (.ref bz23), .val (.int (p2 &&& (7 : Int32))), .val (.int q), .val (.ref rb149), .val (.ref rb158), .val (.int s2), .val (.int s3), .val (.int (s3 - s2))] [(.ref rb158)]))
          have qz169 := own_alen X158 hx hZ rfl Ar158 (g := (mkF m 489 #[.val (.int p0), .val (.int p1), .val (.int p2), .val (.int p3), .val (.int p4), .val (.int p5), .val (.int d0), .val (.int d1), .val (.int d2), .val (.int c0), .val (.int c1), .val (.int c2), .val (.int ve), .val (.int c0), .val (.int s2), .val (.int s3), .val (.int base), .val (.ref bz2), .val (.ref bz23), .val (.int (p2 &&& (7 : Int32))), .val (.int q), .val (.ref rb149), .val (.ref rb158), .val (.int s2), .val (.int s3), .val (.int (s3 - s2))] [(.ref rb158)])) rfl rfl (hb hby at_489)
          refine OGo.st qz169 ?_
          show OGo p.tables e below _ (T158.setTop (mkF m 490 #[.val (.int p0), .val (.int p1), .val (.int p2), .val (.int p3), .val (.int p4), .val (.int p5), .val (.int d0), .val (.int d1), .val (.int d2), .val (.int c0), .val (.int c1), .val (.int c2), .val (.int ve), .val (.int c0), .val (.int s2), .val (.int s3), .val (.int base), .val (.ref bz2), .val (.ref bz23), .val (.int (p2 &&& (7 : Int32))), .val (.int q), .val (.ref rb149), .val (.ref rb158), .val (.int s2), .val (.int s3), .val (.int (s3 - s2))] [(.int (s3 - s2))]))
          refine OGo.st (fun _ k_ => XS.iload X158.here hx rfl (hb hby at_490) rfl k_) ?_
          show OGo p.tables e below _ (T158.setTop (mkF m 492 #[.val (.int p0), .val (.int p1), .val (.int p2), .val (.int p3), .val (.int p4), .val (.int p5), .val (.int d0), .val (.int d1), .val (.int d2), .val (.int c0), .val (.int c1), .val (.int c2), .val (.int ve), .val (.int c0), .val (.int s2), .val (.int s3), .val (.int base), .val (.ref bz2), .val (.ref bz23), .val (.int (p2 &&& (7 : Int32))), .val (.int q), .val (.ref rb149), .val (.ref rb158), .val (.int s2), .val (.int s3), .val (.int (s3 - s2))] [(.int (s3 - s2)), (.int (s3 - s2))]))
          refine OGo.st (fun _ k_ => XS.icmpYes X158.here hx rfl (pc0 := 492) (pc' := 497) rfl (hb hby at_492) rfl (XT.ii_eq_t rfl) (by decide) (by decide) k_) ?_
          show OGo p.tables e below _ (T158.setTop (mkF m 497 #[.val (.int p0), .val (.int p1), .val (.int p2), .val (.int p3), .val (.int p4), .val (.int p5), .val (.int d0), .val (.int d1), .val (.int d2), .val (.int c0), .val (.int c1), .val (.int c2), .val (.int ve), .val (.int c0), .val (.int s2), .val (.int s3), .val (.int base), .val (.ref bz2), .val (.ref bz23), .val (.int (p2 &&& (7 : Int32))), .val (.int q), .val (.ref rb149), .val (.ref rb158), .val (.int s2), .val (.int s3), .val (.int (s3 - s2))] []))
          refine OGo.st (fun _ k_ => XS.aload X158.here hx rfl (hb hby at_497) rfl rfl k_) ?_
          show OGo p.tables e below _ (T158.setTop (mkF m 499 #[.val (.int p0), .val (.int p1), .val (.int p2), .val (.int p3), .val (.int p4), .val (.int p5), .val (.int d0), .val (.int d1), .val (.int d2), .val (.int c0), .val (.int c1), .val (.int c2), .val (.int ve), .val (.int c0), .val (.int s2), .val (.int s3), .val (.int base), .val (.ref bz2), .val (.ref bz23), .val (.int (p2 &&& (7 : Int32))), .val (.int q), .val (.ref rb149), .val (.ref rb158), .val (.int s2), .val (.int s3), .val (.int (s3 - s2))] [(.ref rb149)]))
          refine OGo.st (fun _ k_ => XS.aload X158.here hx rfl (hb hby at_499) rfl rfl k_) ?_
          show OGo p.tables e below _ (T158.setTop (mkF m 501 #[.val (.int p0), .val (.int p1), .val (.int p2), .val (.int p3), .val (.int p4), .val (.int p5), .val (.int d0), .val (.int d1), .val (.int d2), .val (.int c0), .val (.int c1), .val (.int c2), .val (.int ve), .val (.int c0), .val (.int s2), .val (.int s3), .val (.int base), .val (.ref bz2), .val (.ref bz23), .val (.int (p2 &&& (7 : Int32))), .val (.int q), .val (.ref rb149), .val (.ref rb158), .val (.int s2), .val (.int s3), .val (.int (s3 - s2))] [(.ref bz2), (.ref rb149)]))
          refine OGo.st (fun _ k_ => XS.iload X158.here hx rfl (hb hby at_501) rfl k_) ?_
          show OGo p.tables e below _ (T158.setTop (mkF m 503 #[.val (.int p0), .val (.int p1), .val (.int p2), .val (.int p3), .val (.int p4), .val (.int p5), .val (.int d0), .val (.int d1), .val (.int d2), .val (.int c0), .val (.int c1), .val (.int c2), .val (.int ve), .val (.int c0), .val (.int s2), .val (.int s3), .val (.int base), .val (.ref bz2), .val (.ref bz23), .val (.int (p2 &&& (7 : Int32))), .val (.int q), .val (.ref rb149), .val (.ref rb158), .val (.int s2), .val (.int s3), .val (.int (s3 - s2))] [(.int s2), (.ref bz2), (.ref rb149)]))
          refine OGo.st (fun _ k_ => XS.iload X158.here hx rfl (hb hby at_503) rfl k_) ?_
          show OGo p.tables e below _ (T158.setTop (mkF m 505 #[.val (.int p0), .val (.int p1), .val (.int p2), .val (.int p3), .val (.int p4), .val (.int p5), .val (.int d0), .val (.int d1), .val (.int d2), .val (.int c0), .val (.int c1), .val (.int c2), .val (.int ve), .val (.int c0), .val (.int s2), .val (.int s3), .val (.int base), .val (.ref bz2), .val (.ref bz23), .val (.int (p2 &&& (7 : Int32))), .val (.int q), .val (.ref rb149), .val (.ref rb158), .val (.int s2), .val (.int s3), .val (.int (s3 - s2))] [(.int (s3 - s2)), (.int s2), (.ref bz2), (.ref rb149)]))
          obtain ⟨_, _, ⟨T170, Lz170, kz170, nz170⟩, -, X170, ⟨Lc170, hQ170, lz170, yz170, zz170⟩, st170⟩ := Jvm.LawKit.callS X158 hx (y := (⟨"com/example/cari/cari/index/PositionsInPinLaw", "same", "([I[III)Z"⟩ : MethodName)) hown (mvT hZ (hw _ (List.mem_of_getElem? (i := 46) rfl))) (mvT hZ (hw _ (List.mem_of_getElem? (i := 47) rfl))) (mvT hZ (hw _ (List.mem_of_getElem? (i := 48) rfl))) (mvT hZ (hw _ (List.mem_of_getElem? (i := 49) rfl))) (by decide) (backOf (W := 0) (rm15 l Z a0 hw [] rb149 bz2 s2 (s3 - s2) kr149 kz2 (own_9 base) (fun i => own_P (own_9 base) (s2.toNatClampNeg + i)) T158.heap n0 (Nat.le_trans Z0 K_167.1) Af_166 Af_159 (fun _ _ => rfl) (own_ok9 hs.2.2)) hZ (hw _ (List.mem_of_getElem? (i := 49) rfl)) (hw _ (List.mem_of_getElem? (i := 48) rfl)) (by decide) (by decide)) (g := (mkF m 505 #[.val (.int p0), .val (.int p1), .val (.int p2), .val (.int p3), .val (.int p4), .val (.int p5), .val (.int d0), .val (.int d1), .val (.int d2), .val (.int c0), .val (.int c1), .val (.int c2), .val (.int ve), .val (.int c0), .val (.int s2), .val (.int s3), .val (.int base), .val (.ref bz2), .val (.ref bz23), .val (.int (p2 &&& (7 : Int32))), .val (.int q), .val (.ref rb149), .val (.ref rb158), .val (.int s2), .val (.int s3), .val (.int (s3 - s2))] [(.int (s3 - s2)), (.int s2), (.ref bz2), (.ref rb149)])) rfl (by rw [hml]; rfl) (argsL := [(.ref rb149), (.ref bz2), (.int s2), (.int (s3 - s2))]) (rest := []) (lenOf own_pd7 rfl) rfl (by show 2 * 0 + _ ≤ _; exact Nat.le_of_eq rfl) (hb hby at_505) (fun _ _ => ⟨rfl, rfl, (by decide : 6 + 0 ≤ _), (by decide : 25 + 0 ≤ _)⟩)
          dsimp only [Pt.U, Pt.locs, Pt.cells, Pt.slots] at X170 lz170 yz170 zz170 st170 hQ170
          have X170 := own_reb X170 lz170 yz170 zz170
          have X170 : Stand p l e room_1 s m #[(.int p0), (.int p1), (.int p2), (.int p3), (.int p4), (.int p5)] below meth c T170 _ 6 25 := X170
          obtain ⟨hvq170, Nq170, ez170⟩ := hQ170
          rw [hvq170] at st170
          have N170 := Fr.app N158 Nq170
          refine OGo.st st170 ?_
          show OGo p.tables e below _ (T170.setTop (mkF m 508 #[.val (.int p0), .val (.int p1), .val (.int p2), .val (.int p3), .val (.int p4), .val (.int p5), .val (.int d0), .val (.int d1), .val (.int d2), .val (.int c0), .val (.int c1), .val (.int c2), .val (.int ve), .val (.int c0), .val (.int s2), .val (.int s3), .val (.int base), .val (.ref bz2), .val (.ref bz23), .val (.int (p2 &&& (7 : Int32))), .val (.int q), .val (.ref rb149), .val (.ref rb158), .val (.int s2), .val (.int s3), .val (.int (s3 - s2))] [(.int (1 : Int32))]))
          refine OGo.st (fun _ k_ => XS.ifNo X170.here hx rfl (hb hby at_508) rfl (XT.i0_eq_f (by decide)) k_) ?_
          show OGo p.tables e below _ (T170.setTop (mkF m 511 #[.val (.int p0), .val (.int p1), .val (.int p2), .val (.int p3), .val (.int p4), .val (.int p5), .val (.int d0), .val (.int d1), .val (.int d2), .val (.int c0), .val (.int c1), .val (.int c2), .val (.int ve), .val (.int c0), .val (.int s2), .val (.int s3), .val (.int base), .val (.ref bz2), .val (.ref bz23), .val (.int (p2 &&& (7 : Int32))), .val (.int q), .val (.ref rb149), .val (.ref rb158), .val (.int s2), .val (.int s3), .val (.int (s3 - s2))] []))
          refine OGo.st (fun _ k_ => XS.aload X170.here hx rfl (hb hby at_511) rfl rfl k_) ?_
          show OGo p.tables e below _ (T170.setTop (mkF m 513 #[.val (.int p0), .val (.int p1), .val (.int p2), .val (.int p3), .val (.int p4), .val (.int p5), .val (.int d0), .val (.int d1), .val (.int d2), .val (.int c0), .val (.int c1), .val (.int c2), .val (.int ve), .val (.int c0), .val (.int s2), .val (.int s3), .val (.int base), .val (.ref bz2), .val (.ref bz23), .val (.int (p2 &&& (7 : Int32))), .val (.int q), .val (.ref rb149), .val (.ref rb158), .val (.int s2), .val (.int s3), .val (.int (s3 - s2))] [(.ref rb158)]))
          refine OGo.st (fun _ k_ => XS.aload X170.here hx rfl (hb hby at_513) rfl rfl k_) ?_
          show OGo p.tables e below _ (T170.setTop (mkF m 515 #[.val (.int p0), .val (.int p1), .val (.int p2), .val (.int p3), .val (.int p4), .val (.int p5), .val (.int d0), .val (.int d1), .val (.int d2), .val (.int c0), .val (.int c1), .val (.int c2), .val (.int ve), .val (.int c0), .val (.int s2), .val (.int s3), .val (.int base), .val (.ref bz2), .val (.ref bz23), .val (.int (p2 &&& (7 : Int32))), .val (.int q), .val (.ref rb149), .val (.ref rb158), .val (.int s2), .val (.int s3), .val (.int (s3 - s2))] [(.ref bz2), (.ref rb158)]))
          refine OGo.st (fun _ k_ => XS.iload X170.here hx rfl (hb hby at_515) rfl k_) ?_
          show OGo p.tables e below _ (T170.setTop (mkF m 517 #[.val (.int p0), .val (.int p1), .val (.int p2), .val (.int p3), .val (.int p4), .val (.int p5), .val (.int d0), .val (.int d1), .val (.int d2), .val (.int c0), .val (.int c1), .val (.int c2), .val (.int ve), .val (.int c0), .val (.int s2), .val (.int s3), .val (.int base), .val (.ref bz2), .val (.ref bz23), .val (.int (p2 &&& (7 : Int32))), .val (.int q), .val (.ref rb149), .val (.ref rb158), .val (.int s2), .val (.int s3), .val (.int (s3 - s2))] [(.int s2), (.ref bz2), (.ref rb158)]))
          refine OGo.st (fun _ k_ => XS.iload X170.here hx rfl (hb hby at_517) rfl k_) ?_
          show OGo p.tables e below _ (T170.setTop (mkF m 519 #[.val (.int p0), .val (.int p1), .val (.int p2), .val (.int p3), .val (.int p4), .val (.int p5), .val (.int d0), .val (.int d1), .val (.int d2), .val (.int c0), .val (.int c1), .val (.int c2), .val (.int ve), .val (.int c0), .val (.int s2), .val (.int s3), .val (.int base), .val (.ref bz2), .val (.ref bz23), .val (.int (p2 &&& (7 : Int32))), .val (.int q), .val (.ref rb149), .val (.ref rb158), .val (.int s2), .val (.int s3), .val (.int (s3 - s2))] [(.int (s3 - s2)), (.int s2), (.ref bz2), (.ref rb158)]))
          obtain ⟨_, _, ⟨T171, Lz171, kz171, nz171⟩, -, X171, ⟨Lc171, hQ171, lz171, yz171, zz171⟩, st171⟩ := Jvm.LawKit.callS X170 hx (y := (⟨"com/example/cari/cari/index/PositionsInPinLaw", "same", "([I[III)Z"⟩ : MethodName)) hown (mvT hZ (hw _ (List.mem_of_getElem? (i := 46) rfl))) (mvT hZ (hw _ (List.mem_of_getElem? (i := 47) rfl))) (mvT hZ (hw _ (List.mem_of_getElem? (i := 48) rfl))) (mvT hZ (hw _ (List.mem_of_getElem? (i := 49) rfl))) (by decide) (backOf (W := 0) (rm15 l Z a0 hw [] rb158 bz2 s2 (s3 - s2) kr158 kz2 (own_9 base) (fun i => own_P (own_9 base) (s2.toNatClampNeg + i)) T158.heap n0 (Nat.le_trans Z0 K_167.1) Ar158 Af_159 (fun _ _ => rfl) (own_ok9 hs.2.2)) hZ (hw _ (List.mem_of_getElem? (i := 49) rfl)) (hw _ (List.mem_of_getElem? (i := 48) rfl)) (by decide) (by decide)) (g := (mkF m 519 #[.val (.int p0), .val (.int p1), .val (.int p2), .val (.int p3), .val (.int p4), .val (.int p5), .val (.int d0), .val (.int d1), .val (.int d2), .val (.int c0), .val (.int c1), .val (.int c2), .val (.int ve), .val (.int c0), .val (.int s2), .val (.int s3), .val (.int base), .val (.ref bz2), .val (.ref bz23), .val (.int (p2 &&& (7 : Int32))), .val (.int q), .val (.ref rb149), .val (.ref rb158), .val (.int s2), .val (.int s3), .val (.int (s3 - s2))] [(.int (s3 - s2)), (.int s2), (.ref bz2), (.ref rb158)])) rfl (by rw [hml]; rfl) (argsL := [(.ref rb158), (.ref bz2), (.int s2), (.int (s3 - s2))]) (rest := []) (lenOf own_pd7 rfl) rfl (by show 2 * 0 + _ ≤ _; exact Nat.le_of_eq rfl) (hb hby at_519) (fun _ _ => ⟨rfl, ez170, (by decide : 6 + 0 ≤ _), (by decide : 25 + 0 ≤ _)⟩)
          dsimp only [Pt.U, Pt.locs, Pt.cells, Pt.slots] at X171 lz171 yz171 zz171 st171 hQ171
          have X171 := own_reb X171 lz171 yz171 zz171
          have X171 : Stand p l e room_1 s m #[(.int p0), (.int p1), (.int p2), (.int p3), (.int p4), (.int p5)] below meth c T171 _ 6 25 := X171
          obtain ⟨hvq171, Nq171, ez171⟩ := hQ171
          rw [hvq171] at st171
          have N171 := Fr.app N170 Nq171
          refine OGo.st st171 ?_
          show OGo p.tables e below _ (T171.setTop (mkF m 522 #[.val (.int p0), .val (.int p1), .val (.int p2), .val (.int p3), .val (.int p4), .val (.int p5), .val (.int d0), .val (.int d1), .val (.int d2), .val (.int c0), .val (.int c1), .val (.int c2), .val (.int ve), .val (.int c0), .val (.int s2), .val (.int s3), .val (.int base), .val (.ref bz2), .val (.ref bz23), .val (.int (p2 &&& (7 : Int32))), .val (.int q), .val (.ref rb149), .val (.ref rb158), .val (.int s2), .val (.int s3), .val (.int (s3 - s2))] [(.int (1 : Int32))]))
          refine OGo.st (fun _ k_ => XS.ifNo X171.here hx rfl (hb hby at_522) rfl (XT.i0_eq_f (by decide)) k_) ?_
          show OGo p.tables e below _ (T171.setTop (mkF m 525 #[.val (.int p0), .val (.int p1), .val (.int p2), .val (.int p3), .val (.int p4), .val (.int p5), .val (.int d0), .val (.int d1), .val (.int d2), .val (.int c0), .val (.int c1), .val (.int c2), .val (.int ve), .val (.int c0), .val (.int s2), .val (.int s3), .val (.int base), .val (.ref bz2), .val (.ref bz23), .val (.int (p2 &&& (7 : Int32))), .val (.int q), .val (.ref rb149), .val (.ref rb158), .val (.int s2), .val (.int s3), .val (.int (s3 - s2))] []))
          refine OGo.st (fun _ k_ => XS.iconst X171.here hx rfl (hb hby at_525) k_) ?_
          show OGo p.tables e below _ (T171.setTop (mkF m 526 #[.val (.int p0), .val (.int p1), .val (.int p2), .val (.int p3), .val (.int p4), .val (.int p5), .val (.int d0), .val (.int d1), .val (.int d2), .val (.int c0), .val (.int c1), .val (.int c2), .val (.int ve), .val (.int c0), .val (.int s2), .val (.int s3), .val (.int base), .val (.ref bz2), .val (.ref bz23), .val (.int (p2 &&& (7 : Int32))), .val (.int q), .val (.ref rb149), .val (.ref rb158), .val (.int s2), .val (.int s3), .val (.int (s3 - s2))] [(.int (1 : Int32))]))
          refine OGo.st (fun _ k_ => XS.goto X171.here hx rfl (pc0 := 526) (pc' := 530) rfl (hb hby at_526) (by decide) (by decide) k_) ?_
          show OGo p.tables e below _ (T171.setTop (mkF m 530 #[.val (.int p0), .val (.int p1), .val (.int p2), .val (.int p3), .val (.int p4), .val (.int p5), .val (.int d0), .val (.int d1), .val (.int d2), .val (.int c0), .val (.int c1), .val (.int c2), .val (.int ve), .val (.int c0), .val (.int s2), .val (.int s3), .val (.int base), .val (.ref bz2), .val (.ref bz23), .val (.int (p2 &&& (7 : Int32))), .val (.int q), .val (.ref rb149), .val (.ref rb158), .val (.int s2), .val (.int s3), .val (.int (s3 - s2))] [(.int (1 : Int32))]))
          refine OGo.fin X171 (v := some (.int (1 : Int32))) (fun h => by rw [Bd.returns] at h; cases h) hlk (fun fs hr => X171.ireturnOut hx Bd.returns rfl (by simp) (hb hby at_530) hr) ?_ (by decide) (by decide)
          show own_Q_rm0 Z p0 p1 p2 p3 p4 p5 h0 n0 _ T171.heap _
          rw [ez171]
          exact ⟨rfl, N171⟩
        · skip
          show OGo p.tables e below _ (T96.setTop (mkF m 367 #[.val (.int p0), .val (.int p1), .val (.int p2), .val (.int p3), .val (.int p4), .val (.int p5), .val (.int d0), .val (.int d1), .val (.int d2), .val (.int c0), .val (.int c1), .val (.int c2), .val (.int ve), .val (.int c0), .val (.int s2), .val (.int s3), .val (.int base), .val (.ref bz2), .val (.ref bz23), .val (.int (p2 &&& (7 : Int32))), .val (.int q), .unset, .unset, .unset, .unset, .unset] []))
          refine OGo.st (fun _ k_ => XS.aload X96.here hx rfl (hb hby at_367) rfl rfl k_) ?_
          show OGo p.tables e below _ (T96.setTop (mkF m 369 #[.val (.int p0), .val (.int p1), .val (.int p2), .val (.int p3), .val (.int p4), .val (.int p5), .val (.int d0), .val (.int d1), .val (.int d2), .val (.int c0), .val (.int c1), .val (.int c2), .val (.int ve), .val (.int c0), .val (.int s2), .val (.int s3), .val (.int base), .val (.ref bz2), .val (.ref bz23), .val (.int (p2 &&& (7 : Int32))), .val (.int q), .unset, .unset, .unset, .unset, .unset] [(.ref bz23)]))
          refine OGo.st (fun _ k_ => XS.iload X96.here hx rfl (hb hby at_369) rfl k_) ?_
          show OGo p.tables e below _ (T96.setTop (mkF m 371 #[.val (.int p0), .val (.int p1), .val (.int p2), .val (.int p3), .val (.int p4), .val (.int p5), .val (.int d0), .val (.int d1), .val (.int d2), .val (.int c0), .val (.int c1), .val (.int c2), .val (.int ve), .val (.int c0), .val (.int s2), .val (.int s3), .val (.int base), .val (.ref bz2), .val (.ref bz23), .val (.int (p2 &&& (7 : Int32))), .val (.int q), .unset, .unset, .unset, .unset, .unset] [(.int q), (.ref bz23)]))
          obtain ⟨cq172, kqz172, qz172a, qz172b, qz172c⟩ := isOf hZ rfl Ex_98
          obtain ⟨_, _, ⟨T172, Lz172, kz172, nz172⟩, -, X172, ⟨Lc172, hQ172, lz172, yz172, zz172⟩, st172⟩ := X96.virtualBack hx (y := (⟨"com/example/cari/cari/index/Positions", "in", "(I)[I"⟩ : MethodName)) (z := (⟨"com/example/cari/cari/index/Positions", "in", "(I)[I"⟩ : MethodName)) hown (mvT hZ (hw _ (List.mem_of_getElem? (i := 17) rfl))) (mvT hZ (hw _ (List.mem_of_getElem? (i := 18) rfl))) (notFace_of_selects (args := #[]) (mvT hZ (hw _ (List.mem_of_getElem? (i := 20) rfl)))) (mvT hZ (hw _ (List.mem_of_getElem? (i := 20) rfl))) (mvT hZ (hw _ (List.mem_of_getElem? (i := 19) rfl))) (by decide) (backOf (W := 0) (rm13 l Z a0 hw [] bz23 q bz26 bz55 bz2 kz26 kz55 kz2 d0 d1 d2 c0 s2 s3 (own_9 base) T96.heap n0 (Nat.le_trans Z0 K_101.1) qz96_0 qz96_1 qz96_2 Af_99 Af_100 Af_97 (own_bN e0_ e1_ e2_)) hZ (hw _ (List.mem_of_getElem? (i := 21) rfl)) (hw _ (List.mem_of_getElem? (i := 4) rfl)) (by decide) (by decide)) qz172a qz172c (g := (mkF m 371 #[.val (.int p0), .val (.int p1), .val (.int p2), .val (.int p3), .val (.int p4), .val (.int p5), .val (.int d0), .val (.int d1), .val (.int d2), .val (.int c0), .val (.int c1), .val (.int c2), .val (.int ve), .val (.int c0), .val (.int s2), .val (.int s3), .val (.int base), .val (.ref bz2), .val (.ref bz23), .val (.int (p2 &&& (7 : Int32))), .val (.int q), .unset, .unset, .unset, .unset, .unset] [(.int q), (.ref bz23)])) rfl (by rw [hml]; rfl) (Steps.refl _) (argsL := [(.int q)]) (rest := []) (lenOf own_pd6 rfl) rfl (by show 2 * 0 + _ ≤ _; exact Nat.le_of_eq rfl) (hb hby at_371) (fun _ _ => ⟨rfl, rfl, (by decide : 4 + 1 ≤ _), (by decide : 19 + 0 ≤ _)⟩)
          dsimp only [Pt.U, Pt.locs, Pt.cells, Pt.slots] at X172 lz172 yz172 zz172 st172 hQ172
          have X172 := own_reb X172 lz172 yz172 zz172
          have X172 : Stand p l e room_1 s m #[(.int p0), (.int p1), (.int p2), (.int p3), (.int p4), (.int p5)] below meth c T172 _ 5 19 := X172
          obtain ⟨rb172, kr172, rfl, Nq172, Kq172, szr172, Ar172⟩ := hQ172
          have N172 := Fr.app N96 Nq172
          have ne_bz2_rb172 : bz2 ≠ rb172 := Nat.ne_of_lt (Nat.lt_of_lt_of_le Af_97.lt szr172)
          have ne_bz23_rb172 : bz23 ≠ rb172 := Nat.ne_of_lt (Nat.lt_of_lt_of_le Ex_98.lt szr172)
          have ne_bz26_rb172 : bz26 ≠ rb172 := Nat.ne_of_lt (Nat.lt_of_lt_of_le Af_99.lt szr172)
          have ne_bz55_rb172 : bz55 ≠ rb172 := Nat.ne_of_lt (Nat.lt_of_lt_of_le Af_100.lt szr172)
          have g_rb172 : n0 ≤ rb172 := Nat.le_trans (Nat.le_trans Z0 K_101.1) szr172
          have sz_rb172 : h0.size ≤ rb172 := Nat.le_trans K_101.1 szr172
          have Af_173 := Af_97.keep Kq172 nin0
          have Ex_174 := Ex_98.keep Kq172
          have Af_175 := Af_99.keep Kq172 nin0
          have Af_176 := Af_100.keep Kq172 nin0
          have F_177 := qz96_0.keep Kq172 nin0
          have F_178 := qz96_1.keep Kq172 nin0
          have F_179 := qz96_2.keep Kq172 nin0
          have K_180 : Keep h0 T172.heap [] := K_101.trans Kq172 all0
          refine OGo.tr st172 ?_
          show OGo p.tables e below _ (T172.setTop (mkF m 374 #[.val (.int p0), .val (.int p1), .val (.int p2), .val (.int p3), .val (.int p4), .val (.int p5), .val (.int d0), .val (.int d1), .val (.int d2), .val (.int c0), .val (.int c1), .val (.int c2), .val (.int ve), .val (.int c0), .val (.int s2), .val (.int s3), .val (.int base), .val (.ref bz2), .val (.ref bz23), .val (.int (p2 &&& (7 : Int32))), .val (.int q), .unset, .unset, .unset, .unset, .unset] [(.ref rb172)]))
          refine OGo.st (fun _ k_ => XS.astore X172.here hx rfl (hb hby at_374) rfl rfl (l' := #[.val (.int p0), .val (.int p1), .val (.int p2), .val (.int p3), .val (.int p4), .val (.int p5), .val (.int d0), .val (.int d1), .val (.int d2), .val (.int c0), .val (.int c1), .val (.int c2), .val (.int ve), .val (.int c0), .val (.int s2), .val (.int s3), .val (.int base), .val (.ref bz2), .val (.ref bz23), .val (.int (p2 &&& (7 : Int32))), .val (.int q), .val (.ref rb172), .unset, .unset, .unset, .unset]) rfl k_) ?_
          show OGo p.tables e below _ (T172.setTop (mkF m 376 #[.val (.int p0), .val (.int p1), .val (.int p2), .val (.int p3), .val (.int p4), .val (.int p5), .val (.int d0), .val (.int d1), .val (.int d2), .val (.int c0), .val (.int c1), .val (.int c2), .val (.int ve), .val (.int c0), .val (.int s2), .val (.int s3), .val (.int base), .val (.ref bz2), .val (.ref bz23), .val (.int (p2 &&& (7 : Int32))), .val (.int q), .val (.ref rb172), .unset, .unset, .unset, .unset] []))
          refine OGo.st (fun _ k_ => XS.aload X172.here hx rfl (hb hby at_376) rfl rfl k_) ?_
          show OGo p.tables e below _ (T172.setTop (mkF m 378 #[.val (.int p0), .val (.int p1), .val (.int p2), .val (.int p3), .val (.int p4), .val (.int p5), .val (.int d0), .val (.int d1), .val (.int d2), .val (.int c0), .val (.int c1), .val (.int c2), .val (.int ve), .val (.int c0), .val (.int s2), .val (.int s3), .val (.int base), .val (.ref bz2), .val (.ref bz23), .val (.int (p2 &&& (7 : Int32))), .val (.int q), .val (.ref rb172), .unset, .unset, .unset, .unset] [(.ref bz23)]))
          refine OGo.st (fun _ k_ => XS.iload X172.here hx rfl (hb hby at_378) rfl k_) ?_
          show OGo p.tables e below _ (T172.setTop (mkF m 380 #[.val (.int p0), .val (.int p1), .val (.int p2), .val (.int p3), .val (.int p4), .val (.int p5), .val (.int d0), .val (.int d1), .val (.int d2), .val (.int c0), .val (.int c1), .val (.int c2), .val (.int ve), .val (.int c0), .val (.int s2), .val (.int s3), .val (.int base), .val (.ref bz2), .val (.ref bz23), .val (.int (p2 &&& (7 : Int32))), .val (.int q), .val (.ref rb172), .unset, .unset, .unset, .unset] [(.int q), (.ref bz23)]))
          obtain ⟨cq181, kqz181, qz181a, qz181b, qz181c⟩ := isOf hZ rfl Ex_174
          obtain ⟨_, _, ⟨T181, Lz181, kz181, nz181⟩, -, X181, ⟨Lc181, hQ181, lz181, yz181, zz181⟩, st181⟩ := X172.virtualBack hx (y := (⟨"com/example/cari/cari/index/Positions", "in", "(I)[I"⟩ : MethodName)) (z := (⟨"com/example/cari/cari/index/Positions", "in", "(I)[I"⟩ : MethodName)) hown (mvT hZ (hw _ (List.mem_of_getElem? (i := 17) rfl))) (mvT hZ (hw _ (List.mem_of_getElem? (i := 18) rfl))) (notFace_of_selects (args := #[]) (mvT hZ (hw _ (List.mem_of_getElem? (i := 20) rfl)))) (mvT hZ (hw _ (List.mem_of_getElem? (i := 20) rfl))) (mvT hZ (hw _ (List.mem_of_getElem? (i := 19) rfl))) (by decide) (backOf (W := 0) (rm13 l Z a0 hw [] bz23 q bz26 bz55 bz2 kz26 kz55 kz2 d0 d1 d2 c0 s2 s3 (own_9 base) T172.heap n0 (Nat.le_trans Z0 K_180.1) F_177 F_178 F_179 Af_175 Af_176 Af_173 (own_bN e0_ e1_ e2_)) hZ (hw _ (List.mem_of_getElem? (i := 21) rfl)) (hw _ (List.mem_of_getElem? (i := 4) rfl)) (by decide) (by decide)) qz181a qz181c (g := (mkF m 380 #[.val (.int p0), .val (.int p1), .val (.int p2), .val (.int p3), .val (.int p4), .val (.int p5), .val (.int d0), .val (.int d1), .val (.int d2), .val (.int c0), .val (.int c1), .val (.int c2), .val (.int ve), .val (.int c0), .val (.int s2), .val (.int s3), .val (.int base), .val (.ref bz2), .val (.ref bz23), .val (.int (p2 &&& (7 : Int32))), .val (.int q), .val (.ref rb172), .unset, .unset, .unset, .unset] [(.int q), (.ref bz23)])) rfl (by rw [hml]; rfl) (Steps.refl _) (argsL := [(.int q)]) (rest := []) (lenOf own_pd6 rfl) rfl (by show 2 * 0 + _ ≤ _; exact Nat.le_of_eq rfl) (hb hby at_380) (fun _ _ => ⟨rfl, rfl, (by decide : 5 + 1 ≤ _), (by decide : 19 + 0 ≤ _)⟩)
          dsimp only [Pt.U, Pt.locs, Pt.cells, Pt.slots] at X181 lz181 yz181 zz181 st181 hQ181
          have X181 := own_reb X181 lz181 yz181 zz181
          have X181 : Stand p l e room_1 s m #[(.int p0), (.int p1), (.int p2), (.int p3), (.int p4), (.int p5)] below meth c T181 _ 6 19 := X181
          obtain ⟨rb181, kr181, rfl, Nq181, Kq181, szr181, Ar181⟩ := hQ181
          have N181 := Fr.app N172 Nq181
          have ne_bz2_rb181 : bz2 ≠ rb181 := Nat.ne_of_lt (Nat.lt_of_lt_of_le Af_173.lt szr181)
          have ne_bz23_rb181 : bz23 ≠ rb181 := Nat.ne_of_lt (Nat.lt_of_lt_of_le Ex_174.lt szr181)
          have ne_bz26_rb181 : bz26 ≠ rb181 := Nat.ne_of_lt (Nat.lt_of_lt_of_le Af_175.lt szr181)
          have ne_bz55_rb181 : bz55 ≠ rb181 := Nat.ne_of_lt (Nat.lt_of_lt_of_le Af_176.lt szr181)
          have ne_rb172_rb181 : rb172 ≠ rb181 := Nat.ne_of_lt (Nat.lt_of_lt_of_le Ar172.lt szr181)
          have g_rb181 : n0 ≤ rb181 := Nat.le_trans (Nat.le_trans Z0 K_180.1) szr181
          have sz_rb181 : h0.size ≤ rb181 := Nat.le_trans K_180.1 szr181
          have Af_182 := Af_173.keep Kq181 nin0
          have Ex_183 := Ex_174.keep Kq181
          have Af_184 := Af_175.keep Kq181 nin0
          have Af_185 := Af_176.keep Kq181 nin0
          have F_186 := F_177.keep Kq181 nin0
          have F_187 := F_178.keep Kq181 nin0
          have F_188 := F_179.keep Kq181 nin0
          have Af_189 := Ar172.keep Kq181 nin0
          have K_190 : Keep h0 T181.heap [] := K_180.trans Kq181 all0
          refine OGo.tr st181 ?_
          show OGo p.tables e below _ (T181.setTop (mkF m 383 #[.val (.int p0), .val (.int p1), .val (.int p2), .val (.int p3), .val (.int p4), .val (.int p5), .val (.int d0), .val (.int d1), .val (.int d2), .val (.int c0), .val (.int c1), .val (.int c2), .val (.int ve), .val (.int c0), .val (.int s2), .val (.int s3), .val (.int base), .val (.ref bz2), .val (.ref bz23), .val (.int (p2 &&& (7 : Int32))), .val (.int q), .val (.ref rb172), .unset, .unset, .unset, .unset] [(.ref rb181)]))
          refine OGo.st (fun _ k_ => XS.astore X181.here hx rfl (hb hby at_383) rfl rfl (l' := #[.val (.int p0), .val (.int p1), .val (.int p2), .val (.int p3), .val (.int p4), .val (.int p5), .val (.int d0), .val (.int d1), .val (.int d2), .val (.int c0), .val (.int c1), .val (.int c2), .val (.int ve), .val (.int c0), .val (.int s2), .val (.int s3), .val (.int base), .val (.ref bz2), .val (.ref bz23), .val (.int (p2 &&& (7 : Int32))), .val (.int q), .val (.ref rb172), .val (.ref rb181), .unset, .unset, .unset]) rfl k_) ?_
          show OGo p.tables e below _ (T181.setTop (mkF m 385 #[.val (.int p0), .val (.int p1), .val (.int p2), .val (.int p3), .val (.int p4), .val (.int p5), .val (.int d0), .val (.int d1), .val (.int d2), .val (.int c0), .val (.int c1), .val (.int c2), .val (.int ve), .val (.int c0), .val (.int s2), .val (.int s3), .val (.int base), .val (.ref bz2), .val (.ref bz23), .val (.int (p2 &&& (7 : Int32))), .val (.int q), .val (.ref rb172), .val (.ref rb181), .unset, .unset, .unset] []))
          refine OGo.st (fun _ k_ => XS.iconst X181.here hx rfl (hb hby at_385) k_) ?_
          show OGo p.tables e below _ (T181.setTop (mkF m 386 #[.val (.int p0), .val (.int p1), .val (.int p2), .val (.int p3), .val (.int p4), .val (.int p5), .val (.int d0), .val (.int d1), .val (.int d2), .val (.int c0), .val (.int c1), .val (.int c2), .val (.int ve), .val (.int c0), .val (.int s2), .val (.int s3), .val (.int base), .val (.ref bz2), .val (.ref bz23), .val (.int (p2 &&& (7 : Int32))), .val (.int q), .val (.ref rb172), .val (.ref rb181), .unset, .unset, .unset] [(.int (0 : Int32))]))
          refine OGo.st (fun _ k_ => XS.istore X181.here hx rfl (hb hby at_386) rfl (l' := #[.val (.int p0), .val (.int p1), .val (.int p2), .val (.int p3), .val (.int p4), .val (.int p5), .val (.int d0), .val (.int d1), .val (.int d2), .val (.int c0), .val (.int c1), .val (.int c2), .val (.int ve), .val (.int c0), .val (.int s2), .val (.int s3), .val (.int base), .val (.ref bz2), .val (.ref bz23), .val (.int (p2 &&& (7 : Int32))), .val (.int q), .val (.ref rb172), .val (.ref rb181), .val (.int (0 : Int32)), .unset, .unset]) rfl k_) ?_
          show OGo p.tables e below _ (T181.setTop (mkF m 388 #[.val (.int p0), .val (.int p1), .val (.int p2), .val (.int p3), .val (.int p4), .val (.int p5), .val (.int d0), .val (.int d1), .val (.int d2), .val (.int c0), .val (.int c1), .val (.int c2), .val (.int ve), .val (.int c0), .val (.int s2), .val (.int s3), .val (.int base), .val (.ref bz2), .val (.ref bz23), .val (.int (p2 &&& (7 : Int32))), .val (.int q), .val (.ref rb172), .val (.ref rb181), .val (.int (0 : Int32)), .unset, .unset] []))
          refine OGo.st (fun _ k_ => XS.iconst X181.here hx rfl (hb hby at_388) k_) ?_
          show OGo p.tables e below _ (T181.setTop (mkF m 389 #[.val (.int p0), .val (.int p1), .val (.int p2), .val (.int p3), .val (.int p4), .val (.int p5), .val (.int d0), .val (.int d1), .val (.int d2), .val (.int c0), .val (.int c1), .val (.int c2), .val (.int ve), .val (.int c0), .val (.int s2), .val (.int s3), .val (.int base), .val (.ref bz2), .val (.ref bz23), .val (.int (p2 &&& (7 : Int32))), .val (.int q), .val (.ref rb172), .val (.ref rb181), .val (.int (0 : Int32)), .unset, .unset] [(.int (0 : Int32))]))
          refine OGo.st (fun _ k_ => XS.istore X181.here hx rfl (hb hby at_389) rfl (l' := #[.val (.int p0), .val (.int p1), .val (.int p2), .val (.int p3), .val (.int p4), .val (.int p5), .val (.int d0), .val (.int d1), .val (.int d2), .val (.int c0), .val (.int c1), .val (.int c2), .val (.int ve), .val (.int c0), .val (.int s2), .val (.int s3), .val (.int base), .val (.ref bz2), .val (.ref bz23), .val (.int (p2 &&& (7 : Int32))), .val (.int q), .val (.ref rb172), .val (.ref rb181), .val (.int (0 : Int32)), .val (.int (0 : Int32)), .unset]) rfl k_) ?_
          show OGo p.tables e below _ (T181.setTop (mkF m 391 #[.val (.int p0), .val (.int p1), .val (.int p2), .val (.int p3), .val (.int p4), .val (.int p5), .val (.int d0), .val (.int d1), .val (.int d2), .val (.int c0), .val (.int c1), .val (.int c2), .val (.int ve), .val (.int c0), .val (.int s2), .val (.int s3), .val (.int base), .val (.ref bz2), .val (.ref bz23), .val (.int (p2 &&& (7 : Int32))), .val (.int q), .val (.ref rb172), .val (.ref rb181), .val (.int (0 : Int32)), .val (.int (0 : Int32)), .unset] []))
          refine OGo.st (fun _ k_ => XS.iload X181.here hx rfl (hb hby at_391) rfl k_) ?_
          show OGo p.tables e below _ (T181.setTop (mkF m 393 #[.val (.int p0), .val (.int p1), .val (.int p2), .val (.int p3), .val (.int p4), .val (.int p5), .val (.int d0), .val (.int d1), .val (.int d2), .val (.int c0), .val (.int c1), .val (.int c2), .val (.int ve), .val (.int c0), .val (.int s2), .val (.int s3), .val (.int base), .val (.ref bz2), .val (.ref bz23), .val (.int (p2 &&& (7 : Int32))), .val (.int q), .val (.ref rb172), .val (.ref rb181), .val (.int (0 : Int32)), .val (.int (0 : Int32)), .unset] [(.int ve)]))
          refine OGo.st (fun _ k_ => XS.ifNo X181.here hx rfl (hb hby at_393) rfl (XT.i0_ne_f hem) k_) ?_
          show OGo p.tables e below _ (T181.setTop (mkF m 396 #[.val (.int p0), .val (.int p1), .val (.int p2), .val (.int p3), .val (.int p4), .val (.int p5), .val (.int d0), .val (.int d1), .val (.int d2), .val (.int c0), .val (.int c1), .val (.int c2), .val (.int ve), .val (.int c0), .val (.int s2), .val (.int s3), .val (.int base), .val (.ref bz2), .val (.ref bz23), .val (.int (p2 &&& (7 : Int32))), .val (.int q), .val (.ref rb172), .val (.ref rb181), .val (.int (0 : Int32)), .val (.int (0 : Int32)), .unset] []))
          refine OGo.st (fun _ k_ => XS.iload X181.here hx rfl (hb hby at_396) rfl k_) ?_
          show OGo p.tables e below _ (T181.setTop (mkF m 398 #[.val (.int p0), .val (.int p1), .val (.int p2), .val (.int p3), .val (.int p4), .val (.int p5), .val (.int d0), .val (.int d1), .val (.int d2), .val (.int c0), .val (.int c1), .val (.int c2), .val (.int ve), .val (.int c0), .val (.int s2), .val (.int s3), .val (.int base), .val (.ref bz2), .val (.ref bz23), .val (.int (p2 &&& (7 : Int32))), .val (.int q), .val (.ref rb172), .val (.ref rb181), .val (.int (0 : Int32)), .val (.int (0 : Int32)), .unset] [(.int q)]))
          refine OGo.st (fun _ k_ => XS.iload X181.here hx rfl (hb hby at_398) rfl k_) ?_
          show OGo p.tables e below _ (T181.setTop (mkF m 400 #[.val (.int p0), .val (.int p1), .val (.int p2), .val (.int p3), .val (.int p4), .val (.int p5), .val (.int d0), .val (.int d1), .val (.int d2), .val (.int c0), .val (.int c1), .val (.int c2), .val (.int ve), .val (.int c0), .val (.int s2), .val (.int s3), .val (.int base), .val (.ref bz2), .val (.ref bz23), .val (.int (p2 &&& (7 : Int32))), .val (.int q), .val (.ref rb172), .val (.ref rb181), .val (.int (0 : Int32)), .val (.int (0 : Int32)), .unset] [(.int d0), (.int q)]))
          refine OGo.st (fun _ k_ => XS.icmpYes X181.here hx rfl (pc0 := 400) (pc' := 413) rfl (hb hby at_400) rfl (XT.ii_ne_t e0_) (by decide) (by decide) k_) ?_
          show OGo p.tables e below _ (T181.setTop (mkF m 413 #[.val (.int p0), .val (.int p1), .val (.int p2), .val (.int p3), .val (.int p4), .val (.int p5), .val (.int d0), .val (.int d1), .val (.int d2), .val (.int c0), .val (.int c1), .val (.int c2), .val (.int ve), .val (.int c0), .val (.int s2), .val (.int s3), .val (.int base), .val (.ref bz2), .val (.ref bz23), .val (.int (p2 &&& (7 : Int32))), .val (.int q), .val (.ref rb172), .val (.ref rb181), .val (.int (0 : Int32)), .val (.int (0 : Int32)), .unset] []))
          refine OGo.st (fun _ k_ => XS.iload X181.here hx rfl (hb hby at_413) rfl k_) ?_
          show OGo p.tables e below _ (T181.setTop (mkF m 415 #[.val (.int p0), .val (.int p1), .val (.int p2), .val (.int p3), .val (.int p4), .val (.int p5), .val (.int d0), .val (.int d1), .val (.int d2), .val (.int c0), .val (.int c1), .val (.int c2), .val (.int ve), .val (.int c0), .val (.int s2), .val (.int s3), .val (.int base), .val (.ref bz2), .val (.ref bz23), .val (.int (p2 &&& (7 : Int32))), .val (.int q), .val (.ref rb172), .val (.ref rb181), .val (.int (0 : Int32)), .val (.int (0 : Int32)), .unset] [(.int q)]))
          refine OGo.st (fun _ k_ => XS.iload X181.here hx rfl (hb hby at_415) rfl k_) ?_
          show OGo p.tables e below _ (T181.setTop (mkF m 417 #[.val (.int p0), .val (.int p1), .val (.int p2), .val (.int p3), .val (.int p4), .val (.int p5), .val (.int d0), .val (.int d1), .val (.int d2), .val (.int c0), .val (.int c1), .val (.int c2), .val (.int ve), .val (.int c0), .val (.int s2), .val (.int s3), .val (.int base), .val (.ref bz2), .val (.ref bz23), .val (.int (p2 &&& (7 : Int32))), .val (.int q), .val (.ref rb172), .val (.ref rb181), .val (.int (0 : Int32)), .val (.int (0 : Int32)), .unset] [(.int d1), (.int q)]))
          refine OGo.st (fun _ k_ => XS.icmpYes X181.here hx rfl (pc0 := 417) (pc' := 431) rfl (hb hby at_417) rfl (XT.ii_ne_t e1_) (by decide) (by decide) k_) ?_
          show OGo p.tables e below _ (T181.setTop (mkF m 431 #[.val (.int p0), .val (.int p1), .val (.int p2), .val (.int p3), .val (.int p4), .val (.int p5), .val (.int d0), .val (.int d1), .val (.int d2), .val (.int c0), .val (.int c1), .val (.int c2), .val (.int ve), .val (.int c0), .val (.int s2), .val (.int s3), .val (.int base), .val (.ref bz2), .val (.ref bz23), .val (.int (p2 &&& (7 : Int32))), .val (.int q), .val (.ref rb172), .val (.ref rb181), .val (.int (0 : Int32)), .val (.int (0 : Int32)), .unset] []))
          refine OGo.st (fun _ k_ => XS.iload X181.here hx rfl (hb hby at_431) rfl k_) ?_
          show OGo p.tables e below _ (T181.setTop (mkF m 433 #[.val (.int p0), .val (.int p1), .val (.int p2), .val (.int p3), .val (.int p4), .val (.int p5), .val (.int d0), .val (.int d1), .val (.int d2), .val (.int c0), .val (.int c1), .val (.int c2), .val (.int ve), .val (.int c0), .val (.int s2), .val (.int s3), .val (.int base), .val (.ref bz2), .val (.ref bz23), .val (.int (p2 &&& (7 : Int32))), .val (.int q), .val (.ref rb172), .val (.ref rb181), .val (.int (0 : Int32)), .val (.int (0 : Int32)), .unset] [(.int q)]))
          refine OGo.st (fun _ k_ => XS.iload X181.here hx rfl (hb hby at_433) rfl k_) ?_
          show OGo p.tables e below _ (T181.setTop (mkF m 435 #[.val (.int p0), .val (.int p1), .val (.int p2), .val (.int p3), .val (.int p4), .val (.int p5), .val (.int d0), .val (.int d1), .val (.int d2), .val (.int c0), .val (.int c1), .val (.int c2), .val (.int ve), .val (.int c0), .val (.int s2), .val (.int s3), .val (.int base), .val (.ref bz2), .val (.ref bz23), .val (.int (p2 &&& (7 : Int32))), .val (.int q), .val (.ref rb172), .val (.ref rb181), .val (.int (0 : Int32)), .val (.int (0 : Int32)), .unset] [(.int d2), (.int q)]))
          refine OGo.st (fun _ k_ => XS.icmpYes X181.here hx rfl (pc0 := 435) (pc' := 446) rfl (hb hby at_435) rfl (XT.ii_ne_t e2_) (by decide) (by decide) k_) ?_
          show OGo p.tables e below _ (T181.setTop (mkF m 446 #[.val (.int p0), .val (.int p1), .val (.int p2), .val (.int p3), .val (.int p4), .val (.int p5), .val (.int d0), .val (.int d1), .val (.int d2), .val (.int c0), .val (.int c1), .val (.int c2), .val (.int ve), .val (.int c0), .val (.int s2), .val (.int s3), .val (.int base), .val (.ref bz2), .val (.ref bz23), .val (.int (p2 &&& (7 : Int32))), .val (.int q), .val (.ref rb172), .val (.ref rb181), .val (.int (0 : Int32)), .val (.int (0 : Int32)), .unset] []))
          refine OGo.st (fun _ k_ => XS.iload X181.here hx rfl (hb hby at_446) rfl k_) ?_
          show OGo p.tables e below _ (T181.setTop (mkF m 448 #[.val (.int p0), .val (.int p1), .val (.int p2), .val (.int p3), .val (.int p4), .val (.int p5), .val (.int d0), .val (.int d1), .val (.int d2), .val (.int c0), .val (.int c1), .val (.int c2), .val (.int ve), .val (.int c0), .val (.int s2), .val (.int s3), .val (.int base), .val (.ref bz2), .val (.ref bz23), .val (.int (p2 &&& (7 : Int32))), .val (.int q), .val (.ref rb172), .val (.ref rb181), .val (.int (0 : Int32)), .val (.int (0 : Int32)), .unset] [(.int (0 : Int32))]))
          refine OGo.st (fun _ k_ => XS.iload X181.here hx rfl (hb hby at_448) rfl k_) ?_
          show OGo p.tables e below _ (T181.setTop (mkF m 450 #[.val (.int p0), .val (.int p1), .val (.int p2), .val (.int p3), .val (.int p4), .val (.int p5), .val (.int d0), .val (.int d1), .val (.int d2), .val (.int c0), .val (.int c1), .val (.int c2), .val (.int ve), .val (.int c0), .val (.int s2), .val (.int s3), .val (.int base), .val (.ref bz2), .val (.ref bz23), .val (.int (p2 &&& (7 : Int32))), .val (.int q), .val (.ref rb172), .val (.ref rb181), .val (.int (0 : Int32)), .val (.int (0 : Int32)), .unset] [(.int (0 : Int32)), (.int (0 : Int32))]))
          refine OGo.st (fun _ k_ => XS.isub X181.here hx rfl (hb hby at_450) rfl k_) ?_
          show OGo p.tables e below _ (T181.setTop (mkF m 451 #[.val (.int p0), .val (.int p1), .val (.int p2), .val (.int p3), .val (.int p4), .val (.int p5), .val (.int d0), .val (.int d1), .val (.int d2), .val (.int c0), .val (.int c1), .val (.int c2), .val (.int ve), .val (.int c0), .val (.int s2), .val (.int s3), .val (.int base), .val (.ref bz2), .val (.ref bz23), .val (.int (p2 &&& (7 : Int32))), .val (.int q), .val (.ref rb172), .val (.ref rb181), .val (.int (0 : Int32)), .val (.int (0 : Int32)), .unset] [(.int ((0 : Int32) - (0 : Int32)))]))
          refine OGo.st (fun _ k_ => XS.istore X181.here hx rfl (hb hby at_451) rfl (l' := #[.val (.int p0), .val (.int p1), .val (.int p2), .val (.int p3), .val (.int p4), .val (.int p5), .val (.int d0), .val (.int d1), .val (.int d2), .val (.int c0), .val (.int c1), .val (.int c2), .val (.int ve), .val (.int c0), .val (.int s2), .val (.int s3), .val (.int base), .val (.ref bz2), .val (.ref bz23), .val (.int (p2 &&& (7 : Int32))), .val (.int q), .val (.ref rb172), .val (.ref rb181), .val (.int (0 : Int32)), .val (.int (0 : Int32)), .val (.int ((0 : Int32) - (0 : Int32)))]) rfl k_) ?_
          show OGo p.tables e below _ (T181.setTop (mkF m 453 #[.val (.int p0), .val (.int p1), .val (.int p2), .val (.int p3), .val (.int p4), .val (.int p5), .val (.int d0), .val (.int d1), .val (.int d2), .val (.int c0), .val (.int c1), .val (.int c2), .val (.int ve), .val (.int c0), .val (.int s2), .val (.int s3), .val (.int base), .val (.ref bz2), .val (.ref bz23), .val (.int (p2 &&& (7 : Int32))), .val (.int q), .val (.ref rb172), .val (.ref rb181), .val (.int (0 : Int32)), .val (.int (0 : Int32)), .val (.int ((0 : Int32) - (0 : Int32)))] []))
          refine OGo.st (fun _ k_ => XS.aload X181.here hx rfl (hb hby at_453) rfl rfl k_) ?_
          show OGo p.tables e below _ (T181.setTop (mkF m 455 #[.val (.int p0), .val (.int p1), .val (.int p2), .val (.int p3), .val (.int p4), .val (.int p5), .val (.int d0), .val (.int d1), .val (.int d2), .val (.int c0), .val (.int c1), .val (.int c2), .val (.int ve), .val (.int c0), .val (.int s2), .val (.int s3), .val (.int base), .val (.ref bz2), .val (.ref bz23), .val (.int (p2 &&& (7 : Int32))), .val (.int q), .val (.ref rb172), .val (.ref rb181), .val (.int (0 : Int32)), .val (.int (0 : Int32)), .val (.int ((0 : Int32) - (0 : Int32)))] [(.ref rb172)]))
          refine OGo.st (fun _ k_ => XT.nullNo X181.here hx rfl (hb hby at_455) rfl rfl nofun k_) ?_
          show OGo p.tables e below _ (T181.setTop (mkF m 458 #[.val (.int p0), .val (.int p1), .val (.int p2), .val (.int p3), .val (.int p4), .val (.int p5), .val (.int d0), .val (.int d1), .val (.int d2), .val (.int c0), .val (.int c1), .val (.int c2), .val (.int ve), .val (.int c0), .val (.int s2), .val (.int s3), .val (.int base), .val (.ref bz2), .val (.ref bz23), .val (.int (p2 &&& (7 : Int32))), .val (.int q), .val (.ref rb172), .val (.ref rb181), .val (.int (0 : Int32)), .val (.int (0 : Int32)), .val (.int ((0 : Int32) - (0 : Int32)))] []))
          refine OGo.st (fun _ k_ => XS.aload X181.here hx rfl (hb hby at_458) rfl rfl k_) ?_
          show OGo p.tables e below _ (T181.setTop (mkF m 460 #[.val (.int p0), .val (.int p1), .val (.int p2), .val (.int p3), .val (.int p4), .val (.int p5), .val (.int d0), .val (.int d1), .val (.int d2), .val (.int c0), .val (.int c1), .val (.int c2), .val (.int ve), .val (.int c0), .val (.int s2), .val (.int s3), .val (.int base), .val (.ref bz2), .val (.ref bz23), .val (.int (p2 &&& (7 : Int32))), .val (.int q), .val (.ref rb172), .val (.ref rb181), .val (.int (0 : Int32)), .val (.int (0 : Int32)), .val (.int ((0 : Int32) - (0 : Int32)))] [(.ref rb181)]))
          refine OGo.st (fun _ k_ => XT.nullNo X181.here hx rfl (hb hby at_460) rfl rfl nofun k_) ?_
          show OGo p.tables e below _ (T181.setTop (mkF m 463 #[.val (.int p0), .val (.int p1), .val (.int p2), .val (.int p3), .val (.int p4), .val (.int p5), .val (.int d0), .val (.int d1), .val (.int d2), .val (.int c0), .val (.int c1), .val (.int c2), .val (.int ve), .val (.int c0), .val (.int s2), .val (.int s3), .val (.int base), .val (.ref bz2), .val (.ref bz23), .val (.int (p2 &&& (7 : Int32))), .val (.int q), .val (.ref rb172), .val (.ref rb181), .val (.int (0 : Int32)), .val (.int (0 : Int32)), .val (.int ((0 : Int32) - (0 : Int32)))] []))
          refine OGo.st (fun _ k_ => XS.aload X181.here hx rfl (hb hby at_463) rfl rfl k_) ?_
          show OGo p.tables e below _ (T181.setTop (mkF m 465 #[.val (.int p0), .val (.int p1), .val (.int p2), .val (.int p3), .val (.int p4), .val (.int p5), .val (.int d0), .val (.int d1), .val (.int d2), .val (.int c0), .val (.int c1), .val (.int c2), .val (.int ve), .val (.int c0), .val (.int s2), .val (.int s3), .val (.int base), .val (.ref bz2), .val (.ref bz23), .val (.int (p2 &&& (7 : Int32))), .val (.int q), .val (.ref rb172), .val (.ref rb181), .val (.int (0 : Int32)), .val (.int (0 : Int32)), .val (.int ((0 : Int32) - (0 : Int32)))] [(.ref rb172)]))
          refine OGo.st (fun _ k_ => XS.aload X181.here hx rfl (hb hby at_465) rfl rfl k_) ?_
          show OGo p.tables e below _ (T181.setTop (mkF m 467 #[.val (.int p0), .val (.int p1), .val (.int p2), .val (.int p3), .val (.int p4), .val (.int p5), .val (.int d0), .val (.int d1), .val (.int d2), .val (.int c0), .val (.int c1), .val (.int c2), .val (.int ve), .val (.int c0), .val (.int s2), .val (.int s3), .val (.int base), .val (.ref bz2), .val (.ref bz23), .val (.int (p2 &&& (7 : Int32))), .val (.int q), .val (.ref rb172), .val (.ref rb181), .val (.int (0 : Int32)), .val (.int (0 : Int32)), .val (.int ((0 : Int32) - (0 : Int32)))] [(.ref rb181), (.ref rb172)]))
          refine OGo.st (fun _ k_ => XT.acmpNo X181.here hx rfl (hb hby at_467) rfl rfl rfl (XT.aa_eq_f (fun q => ne_rb172_rb181 (Value.ref.inj q))) k_) ?_
          show OGo p.tables e below _ (T181.setTop (mkF m 470 #[.val (.int p0), .val (.int p1), .val (.int p2), .val (.int p3), .val (.int p4), .val (.int p5), .val (.int d0), .val (.int d1), .val (.int d2), .val (.int c0), .val (.int c1), .val (.int c2), .val (.int ve), .val (.int c0), .val (.int s2), .val (.int s3), .val (.int base), .val (.ref bz2), .val (.ref bz23), .val (.int (p2 &&& (7 : Int32))), .val (.int q), .val (.ref rb172), .val (.ref rb181), .val (.int (0 : Int32)), .val (.int (0 : Int32)), .val (.int ((0 : Int32) - (0 : Int32)))] []))
          refine OGo.st (fun _ k_ => XS.aload X181.here hx rfl (hb hby at_470) rfl rfl k_) ?_
          show OGo p.tables e below _ (T181.setTop (mkF m 472 #[.val (.int p0), .val (.int p1), .val (.int p2), .val (.int p3), .val (.int p4), .val (.int p5), .val (.int d0), .val (.int d1), .val (.int d2), .val (.int c0), .val (.int c1), .val (.int c2), .val (.int ve), .val (.int c0), .val (.int s2), .val (.int s3), .val (.int base), .val (.ref bz2), .val (.ref bz23), .val (.int (p2 &&& (7 : Int32))), .val (.int q), .val (.ref rb172), .val (.ref rb181), .val (.int (0 : Int32)), .val (.int (0 : Int32)), .val (.int ((0 : Int32) - (0 : Int32)))] [(.ref rb172)]))
          refine OGo.st (fun _ k_ => XS.aload X181.here hx rfl (hb hby at_472) rfl rfl k_) ?_
          show OGo p.tables e below _ (T181.setTop (mkF m 474 #[.val (.int p0), .val (.int p1), .val (.int p2), .val (.int p3), .val (.int p4), .val (.int p5), .val (.int d0), .val (.int d1), .val (.int d2), .val (.int c0), .val (.int c1), .val (.int c2), .val (.int ve), .val (.int c0), .val (.int s2), .val (.int s3), .val (.int base), .val (.ref bz2), .val (.ref bz23), .val (.int (p2 &&& (7 : Int32))), .val (.int q), .val (.ref rb172), .val (.ref rb181), .val (.int (0 : Int32)), .val (.int (0 : Int32)), .val (.int ((0 : Int32) - (0 : Int32)))] [(.ref bz2), (.ref rb172)]))
          refine OGo.st (fun _ k_ => XT.acmpYes X181.here hx rfl (pc0 := 474) (pc' := 479) rfl (hb hby at_474) rfl rfl rfl (XT.aa_ne_t (fun q => (Ne.symm ne_bz2_rb172) (Value.ref.inj q))) (by decide) (by decide) k_) ?_
          show OGo p.tables e below _ (T181.setTop (mkF m 479 #[.val (.int p0), .val (.int p1), .val (.int p2), .val (.int p3), .val (.int p4), .val (.int p5), .val (.int d0), .val (.int d1), .val (.int d2), .val (.int c0), .val (.int c1), .val (.int c2), .val (.int ve), .val (.int c0), .val (.int s2), .val (.int s3), .val (.int base), .val (.ref bz2), .val (.ref bz23), .val (.int (p2 &&& (7 : Int32))), .val (.int q), .val (.ref rb172), .val (.ref rb181), .val (.int (0 : Int32)), .val (.int (0 : Int32)), .val (.int ((0 : Int32) - (0 : Int32)))] []))
          refine OGo.st (fun _ k_ => XS.aload X181.here hx rfl (hb hby at_479) rfl rfl k_) ?_
          show OGo p.tables e below _ (T181.setTop (mkF m 481 #[.val (.int p0), .val (.int p1), .val (.int p2), .val (.int p3), .val (.int p4), .val (.int p5), .val (.int d0), .val (.int d1), .val (.int d2), .val (.int c0), .val (.int c1), .val (.int c2), .val (.int ve), .val (.int c0), .val (.int s2), .val (.int s3), .val (.int base), .val (.ref bz2), .val (.ref bz23), .val (.int (p2 &&& (7 : Int32))), .val (.int q), .val (.ref rb172), .val (.ref rb181), .val (.int (0 : Int32)), .val (.int (0 : Int32)), .val (.int ((0 : Int32) - (0 : Int32)))] [(.ref rb172)]))
          have qz191 := own_alen X181 hx hZ rfl Af_189 (g := (mkF m 481 #[.val (.int p0), .val (.int p1), .val (.int p2), .val (.int p3), .val (.int p4), .val (.int p5), .val (.int d0), .val (.int d1), .val (.int d2), .val (.int c0), .val (.int c1), .val (.int c2), .val (.int ve), .val (.int c0), .val (.int s2), .val (.int s3), .val (.int base), .val (.ref bz2), .val (.ref bz23), .val (.int (p2 &&& (7 : Int32))), .val (.int q), .val (.ref rb172), .val (.ref rb181), .val (.int (0 : Int32)), .val (.int (0 : Int32)), .val (.int ((0 : Int32) - (0 : Int32)))] [(.ref rb172)])) rfl rfl (hb hby at_481)
          refine OGo.st qz191 ?_
          show OGo p.tables e below _ (T181.setTop (mkF m 482 #[.val (.int p0), .val (.int p1), .val (.int p2), .val (.int p3), .val (.int p4), .val (.int p5), .val (.int d0), .val (.int d1), .val (.int d2), .val (.int c0), .val (.int c1), .val (.int c2), .val (.int ve), .val (.int c0), .val (.int s2), .val (.int s3), .val (.int base), .val (.ref bz2), .val (.ref bz23), .val (.int (p2 &&& (7 : Int32))), .val (.int q), .val (.ref rb172), .val (.ref rb181), .val (.int (0 : Int32)), .val (.int (0 : Int32)), .val (.int ((0 : Int32) - (0 : Int32)))] [(.int (0 : Int32))]))
          refine OGo.st (fun _ k_ => XS.iload X181.here hx rfl (hb hby at_482) rfl k_) ?_
          show OGo p.tables e below _ (T181.setTop (mkF m 484 #[.val (.int p0), .val (.int p1), .val (.int p2), .val (.int p3), .val (.int p4), .val (.int p5), .val (.int d0), .val (.int d1), .val (.int d2), .val (.int c0), .val (.int c1), .val (.int c2), .val (.int ve), .val (.int c0), .val (.int s2), .val (.int s3), .val (.int base), .val (.ref bz2), .val (.ref bz23), .val (.int (p2 &&& (7 : Int32))), .val (.int q), .val (.ref rb172), .val (.ref rb181), .val (.int (0 : Int32)), .val (.int (0 : Int32)), .val (.int ((0 : Int32) - (0 : Int32)))] [(.int ((0 : Int32) - (0 : Int32))), (.int (0 : Int32))]))
          refine OGo.st (fun _ k_ => XS.icmpNo X181.here hx rfl (hb hby at_484) rfl (XT.ii_ne_f (by decide)) k_) ?_
          show OGo p.tables e below _ (T181.setTop (mkF m 487 #[.val (.int p0), .val (.int p1), .val (.int p2), .val (.int p3), .val (.int p4), .val (.int p5), .val (.int d0), .val (.int d1), .val (.int d2), .val (.int c0), .val (.int c1), .val (.int c2), .val (.int ve), .val (.int c0), .val (.int s2), .val (.int s3), .val (.int base), .val (.ref bz2), .val (.ref bz23), .val (.int (p2 &&& (7 : Int32))), .val (.int q), .val (.ref rb172), .val (.ref rb181), .val (.int (0 : Int32)), .val (.int (0 : Int32)), .val (.int ((0 : Int32) - (0 : Int32)))] []))
          refine OGo.st (fun _ k_ => XS.aload X181.here hx rfl (hb hby at_487) rfl rfl k_) ?_
          show OGo p.tables e below _ (T181.setTop (mkF m 489 #[.val (.int p0), .val (.int p1), .val (.int p2), .val (.int p3), .val (.int p4), .val (.int p5), .val (.int d0), .val (.int d1), .val (.int d2), .val (.int c0), .val (.int c1), .val (.int c2), .val (.int ve), .val (.int c0), .val (.int s2), .val (.int s3), .val (.int base), .val (.ref bz2), .val (.ref bz23), .val (.int (p2 &&& (7 : Int32))), .val (.int q), .val (.ref rb172), .val (.ref rb181), .val (.int (0 : Int32)), .val (.int (0 : Int32)), .val (.int ((0 : Int32) - (0 : Int32)))] [(.ref rb181)]))
          have qz192 := own_alen X181 hx hZ rfl Ar181 (g := (mkF m 489 #[.val (.int p0), .val (.int p1), .val (.int p2), .val (.int p3), .val (.int p4), .val (.int p5), .val (.int d0), .val (.int d1), .val (.int d2), .val (.int c0), .val (.int c1), .val (.int c2), .val (.int ve), .val (.int c0), .val (.int s2), .val (.int s3), .val (.int base), .val (.ref bz2), .val (.ref bz23), .val (.int (p2 &&& (7 : Int32))), .val (.int q), .val (.ref rb172), .val (.ref rb181), .val (.int (0 : Int32)), .val (.int (0 : Int32)), .val (.int ((0 : Int32) - (0 : Int32)))] [(.ref rb181)])) rfl rfl (hb hby at_489)
          refine OGo.st qz192 ?_
          show OGo p.tables e below _ (T181.setTop (mkF m 490 #[.val (.int p0), .val (.int p1), .val (.int p2), .val (.int p3), .val (.int p4), .val (.int p5), .val (.int d0), .val (.int d1), .val (.int d2), .val (.int c0), .val (.int c1), .val (.int c2), .val (.int ve), .val (.int c0), .val (.int s2), .val (.int s3), .val (.int base), .val (.ref bz2), .val (.ref bz23), .val (.int (p2 &&& (7 : Int32))), .val (.int q), .val (.ref rb172), .val (.ref rb181), .val (.int (0 : Int32)), .val (.int (0 : Int32)), .val (.int ((0 : Int32) - (0 : Int32)))] [(.int (0 : Int32))]))
          refine OGo.st (fun _ k_ => XS.iload X181.here hx rfl (hb hby at_490) rfl k_) ?_
          show OGo p.tables e below _ (T181.setTop (mkF m 492 #[.val (.int p0), .val (.int p1), .val (.int p2), .val (.int p3), .val (.int p4), .val (.int p5), .val (.int d0), .val (.int d1), .val (.int d2), .val (.int c0), .val (.int c1), .val (.int c2), .val (.int ve), .val (.int c0), .val (.int s2), .val (.int s3), .val (.int base), .val (.ref bz2), .val (.ref bz23), .val (.int (p2 &&& (7 : Int32))), .val (.int q), .val (.ref rb172), .val (.ref rb181), .val (.int (0 : Int32)), .val (.int (0 : Int32)), .val (.int ((0 : Int32) - (0 : Int32)))] [(.int ((0 : Int32) - (0 : Int32))), (.int (0 : Int32))]))
          refine OGo.st (fun _ k_ => XS.icmpYes X181.here hx rfl (pc0 := 492) (pc' := 497) rfl (hb hby at_492) rfl (XT.ii_eq_t (by decide)) (by decide) (by decide) k_) ?_
          show OGo p.tables e below _ (T181.setTop (mkF m 497 #[.val (.int p0), .val (.int p1), .val (.int p2), .val (.int p3), .val (.int p4), .val (.int p5), .val (.int d0), .val (.int d1), .val (.int d2), .val (.int c0), .val (.int c1), .val (.int c2), .val (.int ve), .val (.int c0), .val (.int s2), .val (.int s3), .val (.int base), .val (.ref bz2), .val (.ref bz23), .val (.int (p2 &&& (7 : Int32))), .val (.int q), .val (.ref rb172), .val (.ref rb181), .val (.int (0 : Int32)), .val (.int (0 : Int32)), .val (.int ((0 : Int32) - (0 : Int32)))] []))
          refine OGo.st (fun _ k_ => XS.aload X181.here hx rfl (hb hby at_497) rfl rfl k_) ?_
          show OGo p.tables e below _ (T181.setTop (mkF m 499 #[.val (.int p0), .val (.int p1), .val (.int p2), .val (.int p3), .val (.int p4), .val (.int p5), .val (.int d0), .val (.int d1), .val (.int d2), .val (.int c0), .val (.int c1), .val (.int c2), .val (.int ve), .val (.int c0), .val (.int s2), .val (.int s3), .val (.int base), .val (.ref bz2), .val (.ref bz23), .val (.int (p2 &&& (7 : Int32))), .val (.int q), .val (.ref rb172), .val (.ref rb181), .val (.int (0 : Int32)), .val (.int (0 : Int32)), .val (.int ((0 : Int32) - (0 : Int32)))] [(.ref rb172)]))
          refine OGo.st (fun _ k_ => XS.aload X181.here hx rfl (hb hby at_499) rfl rfl k_) ?_
          show OGo p.tables e below _ (T181.setTop (mkF m 501 #[.val (.int p0), .val (.int p1), .val (.int p2), .val (.int p3), .val (.int p4), .val (.int p5), .val (.int d0), .val (.int d1), .val (.int d2), .val (.int c0), .val (.int c1), .val (.int c2), .val (.int ve), .val (.int c0), .val (.int s2), .val (.int s3), .val (.int base), .val (.ref bz2), .val (.ref bz23), .val (.int (p2 &&& (7 : Int32))), .val (.int q), .val (.ref rb172), .val (.ref rb181), .val (.int (0 : Int32)), .val (.int (0 : Int32)), .val (.int ((0 : Int32) - (0 : Int32)))] [(.ref bz2), (.ref rb172)]))
          refine OGo.st (fun _ k_ => XS.iload X181.here hx rfl (hb hby at_501) rfl k_) ?_
          show OGo p.tables e below _ (T181.setTop (mkF m 503 #[.val (.int p0), .val (.int p1), .val (.int p2), .val (.int p3), .val (.int p4), .val (.int p5), .val (.int d0), .val (.int d1), .val (.int d2), .val (.int c0), .val (.int c1), .val (.int c2), .val (.int ve), .val (.int c0), .val (.int s2), .val (.int s3), .val (.int base), .val (.ref bz2), .val (.ref bz23), .val (.int (p2 &&& (7 : Int32))), .val (.int q), .val (.ref rb172), .val (.ref rb181), .val (.int (0 : Int32)), .val (.int (0 : Int32)), .val (.int ((0 : Int32) - (0 : Int32)))] [(.int (0 : Int32)), (.ref bz2), (.ref rb172)]))
          refine OGo.st (fun _ k_ => XS.iload X181.here hx rfl (hb hby at_503) rfl k_) ?_
          show OGo p.tables e below _ (T181.setTop (mkF m 505 #[.val (.int p0), .val (.int p1), .val (.int p2), .val (.int p3), .val (.int p4), .val (.int p5), .val (.int d0), .val (.int d1), .val (.int d2), .val (.int c0), .val (.int c1), .val (.int c2), .val (.int ve), .val (.int c0), .val (.int s2), .val (.int s3), .val (.int base), .val (.ref bz2), .val (.ref bz23), .val (.int (p2 &&& (7 : Int32))), .val (.int q), .val (.ref rb172), .val (.ref rb181), .val (.int (0 : Int32)), .val (.int (0 : Int32)), .val (.int ((0 : Int32) - (0 : Int32)))] [(.int ((0 : Int32) - (0 : Int32))), (.int (0 : Int32)), (.ref bz2), (.ref rb172)]))
          obtain ⟨_, _, ⟨T193, Lz193, kz193, nz193⟩, -, X193, ⟨Lc193, hQ193, lz193, yz193, zz193⟩, st193⟩ := Jvm.LawKit.callS X181 hx (y := (⟨"com/example/cari/cari/index/PositionsInPinLaw", "same", "([I[III)Z"⟩ : MethodName)) hown (mvT hZ (hw _ (List.mem_of_getElem? (i := 46) rfl))) (mvT hZ (hw _ (List.mem_of_getElem? (i := 47) rfl))) (mvT hZ (hw _ (List.mem_of_getElem? (i := 48) rfl))) (mvT hZ (hw _ (List.mem_of_getElem? (i := 49) rfl))) (by decide) (backOf (W := 0) (rm15 l Z a0 hw [] rb172 bz2 (0 : Int32) ((0 : Int32) - (0 : Int32)) kr172 kz2 (own_9 base) (fun _ => .int 0) T181.heap n0 (Nat.le_trans Z0 K_190.1) Af_189 Af_182 (fun i hi => absurd hi (own_no0 i)) own_z9) hZ (hw _ (List.mem_of_getElem? (i := 49) rfl)) (hw _ (List.mem_of_getElem? (i := 48) rfl)) (by decide) (by decide)) (g := (mkF m 505 #[.val (.int p0), .val (.int p1), .val (.int p2), .val (.int p3), .val (.int p4), .val (.int p5), .val (.int d0), .val (.int d1), .val (.int d2), .val (.int c0), .val (.int c1), .val (.int c2), .val (.int ve), .val (.int c0), .val (.int s2), .val (.int s3), .val (.int base), .val (.ref bz2), .val (.ref bz23), .val (.int (p2 &&& (7 : Int32))), .val (.int q), .val (.ref rb172), .val (.ref rb181), .val (.int (0 : Int32)), .val (.int (0 : Int32)), .val (.int ((0 : Int32) - (0 : Int32)))] [(.int ((0 : Int32) - (0 : Int32))), (.int (0 : Int32)), (.ref bz2), (.ref rb172)])) rfl (by rw [hml]; rfl) (argsL := [(.ref rb172), (.ref bz2), (.int (0 : Int32)), (.int ((0 : Int32) - (0 : Int32)))]) (rest := []) (lenOf own_pd7 rfl) rfl (by show 2 * 0 + _ ≤ _; exact Nat.le_of_eq rfl) (hb hby at_505) (fun _ _ => ⟨rfl, rfl, (by decide : 6 + 0 ≤ _), (by decide : 19 + 0 ≤ _)⟩)
          dsimp only [Pt.U, Pt.locs, Pt.cells, Pt.slots] at X193 lz193 yz193 zz193 st193 hQ193
          have X193 := own_reb X193 lz193 yz193 zz193
          have X193 : Stand p l e room_1 s m #[(.int p0), (.int p1), (.int p2), (.int p3), (.int p4), (.int p5)] below meth c T193 _ 6 19 := X193
          obtain ⟨hvq193, Nq193, ez193⟩ := hQ193
          rw [hvq193] at st193
          have N193 := Fr.app N181 Nq193
          refine OGo.st st193 ?_
          show OGo p.tables e below _ (T193.setTop (mkF m 508 #[.val (.int p0), .val (.int p1), .val (.int p2), .val (.int p3), .val (.int p4), .val (.int p5), .val (.int d0), .val (.int d1), .val (.int d2), .val (.int c0), .val (.int c1), .val (.int c2), .val (.int ve), .val (.int c0), .val (.int s2), .val (.int s3), .val (.int base), .val (.ref bz2), .val (.ref bz23), .val (.int (p2 &&& (7 : Int32))), .val (.int q), .val (.ref rb172), .val (.ref rb181), .val (.int (0 : Int32)), .val (.int (0 : Int32)), .val (.int ((0 : Int32) - (0 : Int32)))] [(.int (1 : Int32))]))
          refine OGo.st (fun _ k_ => XS.ifNo X193.here hx rfl (hb hby at_508) rfl (XT.i0_eq_f (by decide)) k_) ?_
          show OGo p.tables e below _ (T193.setTop (mkF m 511 #[.val (.int p0), .val (.int p1), .val (.int p2), .val (.int p3), .val (.int p4), .val (.int p5), .val (.int d0), .val (.int d1), .val (.int d2), .val (.int c0), .val (.int c1), .val (.int c2), .val (.int ve), .val (.int c0), .val (.int s2), .val (.int s3), .val (.int base), .val (.ref bz2), .val (.ref bz23), .val (.int (p2 &&& (7 : Int32))), .val (.int q), .val (.ref rb172), .val (.ref rb181), .val (.int (0 : Int32)), .val (.int (0 : Int32)), .val (.int ((0 : Int32) - (0 : Int32)))] []))
          refine OGo.st (fun _ k_ => XS.aload X193.here hx rfl (hb hby at_511) rfl rfl k_) ?_
          show OGo p.tables e below _ (T193.setTop (mkF m 513 #[.val (.int p0), .val (.int p1), .val (.int p2), .val (.int p3), .val (.int p4), .val (.int p5), .val (.int d0), .val (.int d1), .val (.int d2), .val (.int c0), .val (.int c1), .val (.int c2), .val (.int ve), .val (.int c0), .val (.int s2), .val (.int s3), .val (.int base), .val (.ref bz2), .val (.ref bz23), .val (.int (p2 &&& (7 : Int32))), .val (.int q), .val (.ref rb172), .val (.ref rb181), .val (.int (0 : Int32)), .val (.int (0 : Int32)), .val (.int ((0 : Int32) - (0 : Int32)))] [(.ref rb181)]))
          refine OGo.st (fun _ k_ => XS.aload X193.here hx rfl (hb hby at_513) rfl rfl k_) ?_
          show OGo p.tables e below _ (T193.setTop (mkF m 515 #[.val (.int p0), .val (.int p1), .val (.int p2), .val (.int p3), .val (.int p4), .val (.int p5), .val (.int d0), .val (.int d1), .val (.int d2), .val (.int c0), .val (.int c1), .val (.int c2), .val (.int ve), .val (.int c0), .val (.int s2), .val (.int s3), .val (.int base), .val (.ref bz2), .val (.ref bz23), .val (.int (p2 &&& (7 : Int32))), .val (.int q), .val (.ref rb172), .val (.ref rb181), .val (.int (0 : Int32)), .val (.int (0 : Int32)), .val (.int ((0 : Int32) - (0 : Int32)))] [(.ref bz2), (.ref rb181)]))
          refine OGo.st (fun _ k_ => XS.iload X193.here hx rfl (hb hby at_515) rfl k_) ?_
          show OGo p.tables e below _ (T193.setTop (mkF m 517 #[.val (.int p0), .val (.int p1), .val (.int p2), .val (.int p3), .val (.int p4), .val (.int p5), .val (.int d0), .val (.int d1), .val (.int d2), .val (.int c0), .val (.int c1), .val (.int c2), .val (.int ve), .val (.int c0), .val (.int s2), .val (.int s3), .val (.int base), .val (.ref bz2), .val (.ref bz23), .val (.int (p2 &&& (7 : Int32))), .val (.int q), .val (.ref rb172), .val (.ref rb181), .val (.int (0 : Int32)), .val (.int (0 : Int32)), .val (.int ((0 : Int32) - (0 : Int32)))] [(.int (0 : Int32)), (.ref bz2), (.ref rb181)]))
          refine OGo.st (fun _ k_ => XS.iload X193.here hx rfl (hb hby at_517) rfl k_) ?_
          show OGo p.tables e below _ (T193.setTop (mkF m 519 #[.val (.int p0), .val (.int p1), .val (.int p2), .val (.int p3), .val (.int p4), .val (.int p5), .val (.int d0), .val (.int d1), .val (.int d2), .val (.int c0), .val (.int c1), .val (.int c2), .val (.int ve), .val (.int c0), .val (.int s2), .val (.int s3), .val (.int base), .val (.ref bz2), .val (.ref bz23), .val (.int (p2 &&& (7 : Int32))), .val (.int q), .val (.ref rb172), .val (.ref rb181), .val (.int (0 : Int32)), .val (.int (0 : Int32)), .val (.int ((0 : Int32) - (0 : Int32)))] [(.int ((0 : Int32) - (0 : Int32))), (.int (0 : Int32)), (.ref bz2), (.ref rb181)]))
          obtain ⟨_, _, ⟨T194, Lz194, kz194, nz194⟩, -, X194, ⟨Lc194, hQ194, lz194, yz194, zz194⟩, st194⟩ := Jvm.LawKit.callS X193 hx (y := (⟨"com/example/cari/cari/index/PositionsInPinLaw", "same", "([I[III)Z"⟩ : MethodName)) hown (mvT hZ (hw _ (List.mem_of_getElem? (i := 46) rfl))) (mvT hZ (hw _ (List.mem_of_getElem? (i := 47) rfl))) (mvT hZ (hw _ (List.mem_of_getElem? (i := 48) rfl))) (mvT hZ (hw _ (List.mem_of_getElem? (i := 49) rfl))) (by decide) (backOf (W := 0) (rm15 l Z a0 hw [] rb181 bz2 (0 : Int32) ((0 : Int32) - (0 : Int32)) kr181 kz2 (own_9 base) (fun _ => .int 0) T181.heap n0 (Nat.le_trans Z0 K_190.1) Ar181 Af_182 (fun i hi => absurd hi (own_no0 i)) own_z9) hZ (hw _ (List.mem_of_getElem? (i := 49) rfl)) (hw _ (List.mem_of_getElem? (i := 48) rfl)) (by decide) (by decide)) (g := (mkF m 519 #[.val (.int p0), .val (.int p1), .val (.int p2), .val (.int p3), .val (.int p4), .val (.int p5), .val (.int d0), .val (.int d1), .val (.int d2), .val (.int c0), .val (.int c1), .val (.int c2), .val (.int ve), .val (.int c0), .val (.int s2), .val (.int s3), .val (.int base), .val (.ref bz2), .val (.ref bz23), .val (.int (p2 &&& (7 : Int32))), .val (.int q), .val (.ref rb172), .val (.ref rb181), .val (.int (0 : Int32)), .val (.int (0 : Int32)), .val (.int ((0 : Int32) - (0 : Int32)))] [(.int ((0 : Int32) - (0 : Int32))), (.int (0 : Int32)), (.ref bz2), (.ref rb181)])) rfl (by rw [hml]; rfl) (argsL := [(.ref rb181), (.ref bz2), (.int (0 : Int32)), (.int ((0 : Int32) - (0 : Int32)))]) (rest := []) (lenOf own_pd7 rfl) rfl (by show 2 * 0 + _ ≤ _; exact Nat.le_of_eq rfl) (hb hby at_519) (fun _ _ => ⟨rfl, ez193, (by decide : 6 + 0 ≤ _), (by decide : 19 + 0 ≤ _)⟩)
          dsimp only [Pt.U, Pt.locs, Pt.cells, Pt.slots] at X194 lz194 yz194 zz194 st194 hQ194
          have X194 := own_reb X194 lz194 yz194 zz194
          have X194 : Stand p l e room_1 s m #[(.int p0), (.int p1), (.int p2), (.int p3), (.int p4), (.int p5)] below meth c T194 _ 6 19 := X194
          obtain ⟨hvq194, Nq194, ez194⟩ := hQ194
          rw [hvq194] at st194
          have N194 := Fr.app N193 Nq194
          refine OGo.st st194 ?_
          show OGo p.tables e below _ (T194.setTop (mkF m 522 #[.val (.int p0), .val (.int p1), .val (.int p2), .val (.int p3), .val (.int p4), .val (.int p5), .val (.int d0), .val (.int d1), .val (.int d2), .val (.int c0), .val (.int c1), .val (.int c2), .val (.int ve), .val (.int c0), .val (.int s2), .val (.int s3), .val (.int base), .val (.ref bz2), .val (.ref bz23), .val (.int (p2 &&& (7 : Int32))), .val (.int q), .val (.ref rb172), .val (.ref rb181), .val (.int (0 : Int32)), .val (.int (0 : Int32)), .val (.int ((0 : Int32) - (0 : Int32)))] [(.int (1 : Int32))]))
          refine OGo.st (fun _ k_ => XS.ifNo X194.here hx rfl (hb hby at_522) rfl (XT.i0_eq_f (by decide)) k_) ?_
          show OGo p.tables e below _ (T194.setTop (mkF m 525 #[.val (.int p0), .val (.int p1), .val (.int p2), .val (.int p3), .val (.int p4), .val (.int p5), .val (.int d0), .val (.int d1), .val (.int d2), .val (.int c0), .val (.int c1), .val (.int c2), .val (.int ve), .val (.int c0), .val (.int s2), .val (.int s3), .val (.int base), .val (.ref bz2), .val (.ref bz23), .val (.int (p2 &&& (7 : Int32))), .val (.int q), .val (.ref rb172), .val (.ref rb181), .val (.int (0 : Int32)), .val (.int (0 : Int32)), .val (.int ((0 : Int32) - (0 : Int32)))] []))
          refine OGo.st (fun _ k_ => XS.iconst X194.here hx rfl (hb hby at_525) k_) ?_
          show OGo p.tables e below _ (T194.setTop (mkF m 526 #[.val (.int p0), .val (.int p1), .val (.int p2), .val (.int p3), .val (.int p4), .val (.int p5), .val (.int d0), .val (.int d1), .val (.int d2), .val (.int c0), .val (.int c1), .val (.int c2), .val (.int ve), .val (.int c0), .val (.int s2), .val (.int s3), .val (.int base), .val (.ref bz2), .val (.ref bz23), .val (.int (p2 &&& (7 : Int32))), .val (.int q), .val (.ref rb172), .val (.ref rb181), .val (.int (0 : Int32)), .val (.int (0 : Int32)), .val (.int ((0 : Int32) - (0 : Int32)))] [(.int (1 : Int32))]))
          refine OGo.st (fun _ k_ => XS.goto X194.here hx rfl (pc0 := 526) (pc' := 530) rfl (hb hby at_526) (by decide) (by decide) k_) ?_
          show OGo p.tables e below _ (T194.setTop (mkF m 530 #[.val (.int p0), .val (.int p1), .val (.int p2), .val (.int p3), .val (.int p4), .val (.int p5), .val (.int d0), .val (.int d1), .val (.int d2), .val (.int c0), .val (.int c1), .val (.int c2), .val (.int ve), .val (.int c0), .val (.int s2), .val (.int s3), .val (.int base), .val (.ref bz2), .val (.ref bz23), .val (.int (p2 &&& (7 : Int32))), .val (.int q), .val (.ref rb172), .val (.ref rb181), .val (.int (0 : Int32)), .val (.int (0 : Int32)), .val (.int ((0 : Int32) - (0 : Int32)))] [(.int (1 : Int32))]))
          refine OGo.fin X194 (v := some (.int (1 : Int32))) (fun h => by rw [Bd.returns] at h; cases h) hlk (fun fs hr => X194.ireturnOut hx Bd.returns rfl (by simp) (hb hby at_530) hr) ?_ (by decide) (by decide)
          show own_Q_rm0 Z p0 p1 p2 p3 p4 p5 h0 n0 _ T194.heap _
          rw [ez194]
          exact ⟨rfl, N194⟩
  · skip
    show OGo p.tables e below _ (T20.setTop (mkF m 180 #[.val (.int p0), .val (.int p1), .val (.int p2), .val (.int p3), .val (.int p4), .val (.int p5), .val (.int d0), .val (.int d1), .val (.int d2), .val (.int c0), .val (.int c1), .val (.int c2), .val (.int ve), .val (.int c0), .val (.int s2), .val (.int s3), .val (.int base), .val (.ref bz2), .unset, .unset, .unset, .unset, .unset, .unset, .unset, .unset] [(.int ve)]))
    refine OGo.st (fun _ k_ => XS.ifNo X20.here hx rfl (hb hby at_180) rfl (XT.i0_eq_f hem) k_) ?_
    show OGo p.tables e below _ (T20.setTop (mkF m 183 #[.val (.int p0), .val (.int p1), .val (.int p2), .val (.int p3), .val (.int p4), .val (.int p5), .val (.int d0), .val (.int d1), .val (.int d2), .val (.int c0), .val (.int c1), .val (.int c2), .val (.int ve), .val (.int c0), .val (.int s2), .val (.int s3), .val (.int base), .val (.ref bz2), .unset, .unset, .unset, .unset, .unset, .unset, .unset, .unset] []))
    obtain ⟨T195, hz195, X195, ez195, Ez195, Az195, Dz195, -, st195⟩ := newO X20 hx hZ hown (hw _ (List.mem_of_getElem? (i := 2) rfl)) (hw _ (List.mem_of_getElem? (i := 3) rfl)) (hw _ (List.mem_of_getElem? (i := 4) rfl)) ez20 (g := (mkF m 183 #[.val (.int p0), .val (.int p1), .val (.int p2), .val (.int p3), .val (.int p4), .val (.int p5), .val (.int d0), .val (.int d1), .val (.int d2), .val (.int c0), .val (.int c1), .val (.int c2), .val (.int ve), .val (.int c0), .val (.int s2), .val (.int s3), .val (.int base), .val (.ref bz2), .unset, .unset, .unset, .unset, .unset, .unset, .unset, .unset] [])) rfl (hb hby at_183) (by decide) (by decide)
    obtain ⟨bz195, g195⟩ : ∃ z, z = hz20.size := ⟨_, rfl⟩
    rw [← g195] at Az195 Dz195 st195
    have lt_bz2_bz195 : @LT.lt Nat instLTNat bz2 bz195 := Nat.lt_of_lt_of_le Af_22.lt (Nat.le_of_eq g195.symm)
    have g_bz195 : n0 ≤ bz195 := Nat.le_trans (Nat.le_trans Z0 K_21.1) (Nat.le_of_eq g195.symm)
    have sz_bz195 : h0.size ≤ bz195 := Nat.le_trans K_21.1 (Nat.le_of_eq g195.symm)
    have Af_196 := Af_22.ext Ez195
    have K_197 : Keep h0 hz195 [] := K_21.ext Ez195
    have F_documents_195 : Fld Z hz195 bz195 "com/example/cari/cari/index/Positions" "documents" "[I" .null := Dz195 (Or.inr (hw _ (List.mem_of_getElem? (i := 12) rfl))) (ty := (.array .int)) (by decide)
    have F_starts_195 : Fld Z hz195 bz195 "com/example/cari/cari/index/Positions" "starts" "[I" .null := Dz195 (Or.inr (hw _ (List.mem_of_getElem? (i := 14) rfl))) (ty := (.array .int)) (by decide)
    have F_positions_195 : Fld Z hz195 bz195 "com/example/cari/cari/index/Positions" "positions" "[I" .null := Dz195 (Or.inr (hw _ (List.mem_of_getElem? (i := 16) rfl))) (ty := (.array .int)) (by decide)
    refine OGo.st st195 ?_
    show OGo p.tables e below _ (T195.setTop (mkF m 186 #[.val (.int p0), .val (.int p1), .val (.int p2), .val (.int p3), .val (.int p4), .val (.int p5), .val (.int d0), .val (.int d1), .val (.int d2), .val (.int c0), .val (.int c1), .val (.int c2), .val (.int ve), .val (.int c0), .val (.int s2), .val (.int s3), .val (.int base), .val (.ref bz2), .unset, .unset, .unset, .unset, .unset, .unset, .unset, .unset] [(.ref bz195)]))
    refine OGo.st (fun _ k_ => XS.dup X195.here hx rfl (hb hby at_186) rfl rfl k_) ?_
    show OGo p.tables e below _ (T195.setTop (mkF m 187 #[.val (.int p0), .val (.int p1), .val (.int p2), .val (.int p3), .val (.int p4), .val (.int p5), .val (.int d0), .val (.int d1), .val (.int d2), .val (.int c0), .val (.int c1), .val (.int c2), .val (.int ve), .val (.int c0), .val (.int s2), .val (.int s3), .val (.int base), .val (.ref bz2), .unset, .unset, .unset, .unset, .unset, .unset, .unset, .unset] [(.ref bz195), (.ref bz195)]))
    refine OGo.st (fun _ k_ => XS.iconst X195.here hx rfl (hb hby at_187) k_) ?_
    show OGo p.tables e below _ (T195.setTop (mkF m 188 #[.val (.int p0), .val (.int p1), .val (.int p2), .val (.int p3), .val (.int p4), .val (.int p5), .val (.int d0), .val (.int d1), .val (.int d2), .val (.int c0), .val (.int c1), .val (.int c2), .val (.int ve), .val (.int c0), .val (.int s2), .val (.int s3), .val (.int base), .val (.ref bz2), .unset, .unset, .unset, .unset, .unset, .unset, .unset, .unset] [(.int (0 : Int32)), (.ref bz195), (.ref bz195)]))
    obtain ⟨T198, hz198, kz198, X198, ez198, Ez198, Az198, st198⟩ := newP X195 hx hZ (hw _ (List.mem_of_getElem? (i := 1) rfl)) ez195 (g := (mkF m 188 #[.val (.int p0), .val (.int p1), .val (.int p2), .val (.int p3), .val (.int p4), .val (.int p5), .val (.int d0), .val (.int d1), .val (.int d2), .val (.int c0), .val (.int c1), .val (.int c2), .val (.int ve), .val (.int c0), .val (.int s2), .val (.int s3), .val (.int base), .val (.ref bz2), .unset, .unset, .unset, .unset, .unset, .unset, .unset, .unset] [(.int (0 : Int32)), (.ref bz195), (.ref bz195)])) rfl (hb hby at_188) rfl (by decide) (cap := 0) (by decide) (by decide) (by decide) (by decide)
    obtain ⟨bz198, g198⟩ : ∃ z, z = hz195.size := ⟨_, rfl⟩
    rw [← g198] at Az198 st198
    have lt_bz2_bz198 : @LT.lt Nat instLTNat bz2 bz198 := Nat.lt_of_lt_of_le Af_196.lt (Nat.le_of_eq g198.symm)
    have lt_bz195_bz198 : @LT.lt Nat instLTNat bz195 bz198 := Nat.lt_of_lt_of_le Az195.lt (Nat.le_of_eq g198.symm)
    have g_bz198 : n0 ≤ bz198 := Nat.le_trans (Nat.le_trans Z0 K_197.1) (Nat.le_of_eq g198.symm)
    have sz_bz198 : h0.size ≤ bz198 := Nat.le_trans K_197.1 (Nat.le_of_eq g198.symm)
    have Af_199 := Af_196.ext Ez198
    have Ex_200 := Az195.ext Ez198
    have F_201 := F_documents_195.ext Ez198
    have F_202 := F_starts_195.ext Ez198
    have F_203 := F_positions_195.ext Ez198
    have K_204 : Keep h0 hz198 [] := K_197.ext Ez198
    have V_bz198 : Arf Z hz198 bz198 kz198 .int (0 : Int32) (fun _ => (.int (0 : Int32))) := own_new Az198 (by decide)
    refine OGo.st st198 ?_
    show OGo p.tables e below _ (T198.setTop (mkF m 190 #[.val (.int p0), .val (.int p1), .val (.int p2), .val (.int p3), .val (.int p4), .val (.int p5), .val (.int d0), .val (.int d1), .val (.int d2), .val (.int c0), .val (.int c1), .val (.int c2), .val (.int ve), .val (.int c0), .val (.int s2), .val (.int s3), .val (.int base), .val (.ref bz2), .unset, .unset, .unset, .unset, .unset, .unset, .unset, .unset] [(.ref bz198), (.ref bz195), (.ref bz195)]))
    refine OGo.st (fun _ k_ => XS.iconst X198.here hx rfl (hb hby at_190) k_) ?_
    show OGo p.tables e below _ (T198.setTop (mkF m 191 #[.val (.int p0), .val (.int p1), .val (.int p2), .val (.int p3), .val (.int p4), .val (.int p5), .val (.int d0), .val (.int d1), .val (.int d2), .val (.int c0), .val (.int c1), .val (.int c2), .val (.int ve), .val (.int c0), .val (.int s2), .val (.int s3), .val (.int base), .val (.ref bz2), .unset, .unset, .unset, .unset, .unset, .unset, .unset, .unset] [(.int (1 : Int32)), (.ref bz198), (.ref bz195), (.ref bz195)]))
    obtain ⟨T205, hz205, kz205, X205, ez205, Ez205, Az205, st205⟩ := newP X198 hx hZ (hw _ (List.mem_of_getElem? (i := 1) rfl)) ez198 (g := (mkF m 191 #[.val (.int p0), .val (.int p1), .val (.int p2), .val (.int p3), .val (.int p4), .val (.int p5), .val (.int d0), .val (.int d1), .val (.int d2), .val (.int c0), .val (.int c1), .val (.int c2), .val (.int ve), .val (.int c0), .val (.int s2), .val (.int s3), .val (.int base), .val (.ref bz2), .unset, .unset, .unset, .unset, .unset, .unset, .unset, .unset] [(.int (1 : Int32)), (.ref bz198), (.ref bz195), (.ref bz195)])) rfl (hb hby at_191) rfl (by decide) (cap := 1) (by decide) (by decide) (by decide) (by decide)
    obtain ⟨bz205, g205⟩ : ∃ z, z = hz198.size := ⟨_, rfl⟩
    rw [← g205] at Az205 st205
    have lt_bz2_bz205 : @LT.lt Nat instLTNat bz2 bz205 := Nat.lt_of_lt_of_le Af_199.lt (Nat.le_of_eq g205.symm)
    have lt_bz195_bz205 : @LT.lt Nat instLTNat bz195 bz205 := Nat.lt_of_lt_of_le Ex_200.lt (Nat.le_of_eq g205.symm)
    have lt_bz198_bz205 : @LT.lt Nat instLTNat bz198 bz205 := Nat.lt_of_lt_of_le V_bz198.lt (Nat.le_of_eq g205.symm)
    have g_bz205 : n0 ≤ bz205 := Nat.le_trans (Nat.le_trans Z0 K_204.1) (Nat.le_of_eq g205.symm)
    have sz_bz205 : h0.size ≤ bz205 := Nat.le_trans K_204.1 (Nat.le_of_eq g205.symm)
    have Af_206 := Af_199.ext Ez205
    have Ex_207 := Ex_200.ext Ez205
    have F_208 := F_201.ext Ez205
    have F_209 := F_202.ext Ez205
    have F_210 := F_203.ext Ez205
    have Af_211 := V_bz198.ext Ez205
    have K_212 : Keep h0 hz205 [] := K_204.ext Ez205
    have V_bz205 : Arf Z hz205 bz205 kz205 .int (1 : Int32) (fun _ => (.int (0 : Int32))) := own_new Az205 (by decide)
    refine OGo.st st205 ?_
    show OGo p.tables e below _ (T205.setTop (mkF m 193 #[.val (.int p0), .val (.int p1), .val (.int p2), .val (.int p3), .val (.int p4), .val (.int p5), .val (.int d0), .val (.int d1), .val (.int d2), .val (.int c0), .val (.int c1), .val (.int c2), .val (.int ve), .val (.int c0), .val (.int s2), .val (.int s3), .val (.int base), .val (.ref bz2), .unset, .unset, .unset, .unset, .unset, .unset, .unset, .unset] [(.ref bz205), (.ref bz198), (.ref bz195), (.ref bz195)]))
    refine OGo.st (fun _ k_ => XS.dup X205.here hx rfl (hb hby at_193) rfl rfl k_) ?_
    show OGo p.tables e below _ (T205.setTop (mkF m 194 #[.val (.int p0), .val (.int p1), .val (.int p2), .val (.int p3), .val (.int p4), .val (.int p5), .val (.int d0), .val (.int d1), .val (.int d2), .val (.int c0), .val (.int c1), .val (.int c2), .val (.int ve), .val (.int c0), .val (.int s2), .val (.int s3), .val (.int base), .val (.ref bz2), .unset, .unset, .unset, .unset, .unset, .unset, .unset, .unset] [(.ref bz205), (.ref bz205), (.ref bz198), (.ref bz195), (.ref bz195)]))
    refine OGo.st (fun _ k_ => XS.iconst X205.here hx rfl (hb hby at_194) k_) ?_
    show OGo p.tables e below _ (T205.setTop (mkF m 195 #[.val (.int p0), .val (.int p1), .val (.int p2), .val (.int p3), .val (.int p4), .val (.int p5), .val (.int d0), .val (.int d1), .val (.int d2), .val (.int c0), .val (.int c1), .val (.int c2), .val (.int ve), .val (.int c0), .val (.int s2), .val (.int s3), .val (.int base), .val (.ref bz2), .unset, .unset, .unset, .unset, .unset, .unset, .unset, .unset] [(.int (0 : Int32)), (.ref bz205), (.ref bz205), (.ref bz198), (.ref bz195), (.ref bz195)]))
    refine OGo.st (fun _ k_ => XS.iconst X205.here hx rfl (hb hby at_195) k_) ?_
    show OGo p.tables e below _ (T205.setTop (mkF m 196 #[.val (.int p0), .val (.int p1), .val (.int p2), .val (.int p3), .val (.int p4), .val (.int p5), .val (.int d0), .val (.int d1), .val (.int d2), .val (.int c0), .val (.int c1), .val (.int c2), .val (.int ve), .val (.int c0), .val (.int s2), .val (.int s3), .val (.int base), .val (.ref bz2), .unset, .unset, .unset, .unset, .unset, .unset, .unset, .unset] [(.int (0 : Int32)), (.int (0 : Int32)), (.ref bz205), (.ref bz205), (.ref bz198), (.ref bz195), (.ref bz195)]))
    obtain ⟨T213, hz213, X213, ez213, W213, V213, st213⟩ := own_stI X205 hx hZ ez205 V_bz205 (j := (0 : Int32)) (by decide)  (g := (mkF m 196 #[.val (.int p0), .val (.int p1), .val (.int p2), .val (.int p3), .val (.int p4), .val (.int p5), .val (.int d0), .val (.int d1), .val (.int d2), .val (.int c0), .val (.int c1), .val (.int c2), .val (.int ve), .val (.int c0), .val (.int s2), .val (.int s3), .val (.int base), .val (.ref bz2), .unset, .unset, .unset, .unset, .unset, .unset, .unset, .unset] [(.int (0 : Int32)), (.int (0 : Int32)), (.ref bz205), (.ref bz205), (.ref bz198), (.ref bz195), (.ref bz195)])) rfl rfl (hb hby at_196)
    have Af_214 := Af_206.other W213 (Nat.ne_of_lt lt_bz2_bz205)
    have Ex_215 := Ex_207.wr W213
    have F_216 := F_208.other W213 (Or.inl (Nat.ne_of_lt lt_bz195_bz205))
    have F_217 := F_209.other W213 (Or.inl (Nat.ne_of_lt lt_bz195_bz205))
    have F_218 := F_210.other W213 (Or.inl (Nat.ne_of_lt lt_bz195_bz205))
    have Af_219 := Af_211.other W213 (Nat.ne_of_lt lt_bz198_bz205)
    have N213 := Fr.snoc X213 N20 g_bz205
    have K_220 : Keep h0 hz213 [] := K_212.wr W213 (Or.inr sz_bz205)
    refine OGo.st st213 ?_
    show OGo p.tables e below _ (T213.setTop (mkF m 197 #[.val (.int p0), .val (.int p1), .val (.int p2), .val (.int p3), .val (.int p4), .val (.int p5), .val (.int d0), .val (.int d1), .val (.int d2), .val (.int c0), .val (.int c1), .val (.int c2), .val (.int ve), .val (.int c0), .val (.int s2), .val (.int s3), .val (.int base), .val (.ref bz2), .unset, .unset, .unset, .unset, .unset, .unset, .unset, .unset] [(.ref bz205), (.ref bz198), (.ref bz195), (.ref bz195)]))
    refine OGo.st (fun _ k_ => XS.iconst X213.here hx rfl (hb hby at_197) k_) ?_
    show OGo p.tables e below _ (T213.setTop (mkF m 198 #[.val (.int p0), .val (.int p1), .val (.int p2), .val (.int p3), .val (.int p4), .val (.int p5), .val (.int d0), .val (.int d1), .val (.int d2), .val (.int c0), .val (.int c1), .val (.int c2), .val (.int ve), .val (.int c0), .val (.int s2), .val (.int s3), .val (.int base), .val (.ref bz2), .unset, .unset, .unset, .unset, .unset, .unset, .unset, .unset] [(.int (0 : Int32)), (.ref bz205), (.ref bz198), (.ref bz195), (.ref bz195)]))
    obtain ⟨T221, hz221, kz221, X221, ez221, Ez221, Az221, st221⟩ := newP X213 hx hZ (hw _ (List.mem_of_getElem? (i := 1) rfl)) ez213 (g := (mkF m 198 #[.val (.int p0), .val (.int p1), .val (.int p2), .val (.int p3), .val (.int p4), .val (.int p5), .val (.int d0), .val (.int d1), .val (.int d2), .val (.int c0), .val (.int c1), .val (.int c2), .val (.int ve), .val (.int c0), .val (.int s2), .val (.int s3), .val (.int base), .val (.ref bz2), .unset, .unset, .unset, .unset, .unset, .unset, .unset, .unset] [(.int (0 : Int32)), (.ref bz205), (.ref bz198), (.ref bz195), (.ref bz195)])) rfl (hb hby at_198) rfl (by decide) (cap := 0) (by decide) (by decide) (by decide) (by decide)
    obtain ⟨bz221, g221⟩ : ∃ z, z = hz213.size := ⟨_, rfl⟩
    rw [← g221] at Az221 st221
    have lt_bz2_bz221 : @LT.lt Nat instLTNat bz2 bz221 := Nat.lt_of_lt_of_le Af_214.lt (Nat.le_of_eq g221.symm)
    have lt_bz195_bz221 : @LT.lt Nat instLTNat bz195 bz221 := Nat.lt_of_lt_of_le Ex_215.lt (Nat.le_of_eq g221.symm)
    have lt_bz198_bz221 : @LT.lt Nat instLTNat bz198 bz221 := Nat.lt_of_lt_of_le Af_219.lt (Nat.le_of_eq g221.symm)
    have lt_bz205_bz221 : @LT.lt Nat instLTNat bz205 bz221 := Nat.lt_of_lt_of_le V213.lt (Nat.le_of_eq g221.symm)
    have g_bz221 : n0 ≤ bz221 := Nat.le_trans (Nat.le_trans Z0 K_220.1) (Nat.le_of_eq g221.symm)
    have sz_bz221 : h0.size ≤ bz221 := Nat.le_trans K_220.1 (Nat.le_of_eq g221.symm)
    have Af_222 := Af_214.ext Ez221
    have Ex_223 := Ex_215.ext Ez221
    have F_224 := F_216.ext Ez221
    have F_225 := F_217.ext Ez221
    have F_226 := F_218.ext Ez221
    have Af_227 := Af_219.ext Ez221
    have Af_228 := V213.ext Ez221
    have K_229 : Keep h0 hz221 [] := K_220.ext Ez221
    have V_bz221 : Arf Z hz221 bz221 kz221 .int (0 : Int32) (fun _ => (.int (0 : Int32))) := own_new Az221 (by decide)
    refine OGo.st st221 ?_
    show OGo p.tables e below _ (T221.setTop (mkF m 200 #[.val (.int p0), .val (.int p1), .val (.int p2), .val (.int p3), .val (.int p4), .val (.int p5), .val (.int d0), .val (.int d1), .val (.int d2), .val (.int c0), .val (.int c1), .val (.int c2), .val (.int ve), .val (.int c0), .val (.int s2), .val (.int s3), .val (.int base), .val (.ref bz2), .unset, .unset, .unset, .unset, .unset, .unset, .unset, .unset] [(.ref bz221), (.ref bz205), (.ref bz198), (.ref bz195), (.ref bz195)]))
    obtain ⟨_, _, ⟨T230, Lz230, kz230, nz230⟩, -, X230, ⟨Lc230, hQ230, lz230, yz230, zz230⟩, st230⟩ := X221.specialBack hx (y := (⟨"com/example/cari/cari/index/Positions", "<init>", "([I[I[I)V"⟩ : MethodName)) rfl hown (mvT hZ (hw _ (List.mem_of_getElem? (i := 5) rfl))) (mvT hZ (hw _ (List.mem_of_getElem? (i := 6) rfl))) (mvT hZ (hw _ (List.mem_of_getElem? (i := 7) rfl))) (by decide) (backOf (W := 1) (rm9 l Z a0 hw [] bz195 bz198 bz205 bz221 hz221 n0 (Nat.le_trans Z0 K_229.1) Ex_223 F_224 F_225 F_226 g_bz195) hZ (hw _ (List.mem_of_getElem? (i := 7) rfl)) (hw _ (List.mem_of_getElem? (i := 4) rfl)) (by decide) (by decide)) (g := (mkF m 200 #[.val (.int p0), .val (.int p1), .val (.int p2), .val (.int p3), .val (.int p4), .val (.int p5), .val (.int d0), .val (.int d1), .val (.int d2), .val (.int c0), .val (.int c1), .val (.int c2), .val (.int ve), .val (.int c0), .val (.int s2), .val (.int s3), .val (.int base), .val (.ref bz2), .unset, .unset, .unset, .unset, .unset, .unset, .unset, .unset] [(.ref bz221), (.ref bz205), (.ref bz198), (.ref bz195), (.ref bz195)])) rfl (by rw [hml]; rfl) (Steps.refl _) (a := bz195) (argsL := [(.ref bz198), (.ref bz205), (.ref bz221)]) (rest := [(.ref bz195)]) (lenOf own_pd5 rfl) rfl (by show 2 * 0 + _ ≤ _; exact Nat.le_of_eq rfl) (hb hby at_200) (fun _ _ => ⟨rfl, ez221, (by decide : 5 + 0 ≤ _), (by decide : 13 + 0 ≤ _)⟩)
    dsimp only [Pt.U, Pt.locs, Pt.cells, Pt.slots] at X230 lz230 yz230 zz230 st230 hQ230
    have X230 := own_reb X230 lz230 yz230 zz230
    have X230 : Stand p l e room_1 s m #[(.int p0), (.int p1), (.int p2), (.int p3), (.int p4), (.int p5)] below meth c T230 _ 5 13 := X230
    obtain ⟨hvq230, Nq230, Kq230, qz230_0, qz230_1, qz230_2⟩ := hQ230
    rw [hvq230] at st230
    have N230 := Fr.app N213 Nq230
    have Af_231 := Af_222.keep Kq230 (ninS (Nat.ne_of_lt lt_bz2_bz195) nin0)
    have Ex_232 := Ex_223.keep Kq230
    have Af_233 := Af_227.keep Kq230 (ninS (Ne.symm (Nat.ne_of_lt lt_bz195_bz198)) nin0)
    have Af_234 := Af_228.keep Kq230 (ninS (Ne.symm (Nat.ne_of_lt lt_bz195_bz205)) nin0)
    have Af_235 := V_bz221.keep Kq230 (ninS (Ne.symm (Nat.ne_of_lt lt_bz195_bz221)) nin0)
    have K_236 : Keep h0 T230.heap [] := K_229.trans Kq230 (allS (Or.inr sz_bz195) all0)
    refine OGo.tr st230 ?_
    show OGo p.tables e below _ (T230.setTop (mkF m 203 #[.val (.int p0), .val (.int p1), .val (.int p2), .val (.int p3), .val (.int p4), .val (.int p5), .val (.int d0), .val (.int d1), .val (.int d2), .val (.int c0), .val (.int c1), .val (.int c2), .val (.int ve), .val (.int c0), .val (.int s2), .val (.int s3), .val (.int base), .val (.ref bz2), .unset, .unset, .unset, .unset, .unset, .unset, .unset, .unset] [(.ref bz195)]))
    refine OGo.st (fun _ k_ => XS.astore X230.here hx rfl (hb hby at_203) rfl rfl (l' := #[.val (.int p0), .val (.int p1), .val (.int p2), .val (.int p3), .val (.int p4), .val (.int p5), .val (.int d0), .val (.int d1), .val (.int d2), .val (.int c0), .val (.int c1), .val (.int c2), .val (.int ve), .val (.int c0), .val (.int s2), .val (.int s3), .val (.int base), .val (.ref bz2), .val (.ref bz195), .unset, .unset, .unset, .unset, .unset, .unset, .unset]) rfl k_) ?_
    show OGo p.tables e below _ (T230.setTop (mkF m 205 #[.val (.int p0), .val (.int p1), .val (.int p2), .val (.int p3), .val (.int p4), .val (.int p5), .val (.int d0), .val (.int d1), .val (.int d2), .val (.int c0), .val (.int c1), .val (.int c2), .val (.int ve), .val (.int c0), .val (.int s2), .val (.int s3), .val (.int base), .val (.ref bz2), .val (.ref bz195), .unset, .unset, .unset, .unset, .unset, .unset, .unset] []))
    refine OGo.st (fun _ k_ => XS.goto X230.here hx rfl (pc0 := 205) (pc' := 259) rfl (hb hby at_205) (by decide) (by decide) k_) ?_
    show OGo p.tables e below _ (T230.setTop (mkF m 259 #[.val (.int p0), .val (.int p1), .val (.int p2), .val (.int p3), .val (.int p4), .val (.int p5), .val (.int d0), .val (.int d1), .val (.int d2), .val (.int c0), .val (.int c1), .val (.int c2), .val (.int ve), .val (.int c0), .val (.int s2), .val (.int s3), .val (.int base), .val (.ref bz2), .val (.ref bz195), .unset, .unset, .unset, .unset, .unset, .unset, .unset] []))
    refine OGo.st (fun _ k_ => XS.iloadN X230.here hx rfl (hb hby at_259) rfl k_) ?_
    show OGo p.tables e below _ (T230.setTop (mkF m 260 #[.val (.int p0), .val (.int p1), .val (.int p2), .val (.int p3), .val (.int p4), .val (.int p5), .val (.int d0), .val (.int d1), .val (.int d2), .val (.int c0), .val (.int c1), .val (.int c2), .val (.int ve), .val (.int c0), .val (.int s2), .val (.int s3), .val (.int base), .val (.ref bz2), .val (.ref bz195), .unset, .unset, .unset, .unset, .unset, .unset, .unset] [(.int p2)]))
    refine OGo.st (fun _ k_ => XS.bipush X230.here hx rfl (hb hby at_260) k_) ?_
    show OGo p.tables e below _ (T230.setTop (mkF m 262 #[.val (.int p0), .val (.int p1), .val (.int p2), .val (.int p3), .val (.int p4), .val (.int p5), .val (.int d0), .val (.int d1), .val (.int d2), .val (.int c0), .val (.int c1), .val (.int c2), .val (.int ve), .val (.int c0), .val (.int s2), .val (.int s3), .val (.int base), .val (.ref bz2), .val (.ref bz195), .unset, .unset, .unset, .unset, .unset, .unset, .unset] [(.int (7 : Int32)), (.int p2)]))
    refine OGo.st (fun _ k_ => XS.iand X230.here hx rfl (hb hby at_262) rfl k_) ?_
    show OGo p.tables e below _ (T230.setTop (mkF m 263 #[.val (.int p0), .val (.int p1), .val (.int p2), .val (.int p3), .val (.int p4), .val (.int p5), .val (.int d0), .val (.int d1), .val (.int d2), .val (.int c0), .val (.int c1), .val (.int c2), .val (.int ve), .val (.int c0), .val (.int s2), .val (.int s3), .val (.int base), .val (.ref bz2), .val (.ref bz195), .unset, .unset, .unset, .unset, .unset, .unset, .unset] [(.int (p2 &&& (7 : Int32)))]))
    refine OGo.st (fun _ k_ => XS.istore X230.here hx rfl (hb hby at_263) rfl (l' := #[.val (.int p0), .val (.int p1), .val (.int p2), .val (.int p3), .val (.int p4), .val (.int p5), .val (.int d0), .val (.int d1), .val (.int d2), .val (.int c0), .val (.int c1), .val (.int c2), .val (.int ve), .val (.int c0), .val (.int s2), .val (.int s3), .val (.int base), .val (.ref bz2), .val (.ref bz195), .val (.int (p2 &&& (7 : Int32))), .unset, .unset, .unset, .unset, .unset, .unset]) rfl k_) ?_
    obtain ⟨q, hvz237, st237⟩ : ∃ q : Int32, q = (if (p2 &&& (7 : Int32)) = 0 then d0 else (if (p2 &&& (7 : Int32)) = (1 : Int32) then d1 else (if (p2 &&& (7 : Int32)) = (2 : Int32) then d2 else (if (p2 &&& (7 : Int32)) = (3 : Int32) then (d0 - (1 : Int32)) else (if (p2 &&& (7 : Int32)) = (4 : Int32) then (d1 - (1 : Int32)) else (if (p2 &&& (7 : Int32)) = (5 : Int32) then (d2 - (1 : Int32)) else (if (p2 &&& (7 : Int32)) = (6 : Int32) then (d2 + (1 : Int32)) else p3))))))) ∧ ∀ t, Steps p.tables e below (T230.setTop (mkF m 367 #[.val (.int p0), .val (.int p1), .val (.int p2), .val (.int p3), .val (.int p4), .val (.int p5), .val (.int d0), .val (.int d1), .val (.int d2), .val (.int c0), .val (.int c1), .val (.int c2), .val (.int ve), .val (.int c0), .val (.int s2), .val (.int s3), .val (.int base), .val (.ref bz2), .val (.ref bz195), .val (.int (p2 &&& (7 : Int32))), .val (.int q), .unset, .unset, .unset, .unset, .unset] [])) t → Steps p.tables e below (T230.setTop (mkF m 265 #[.val (.int p0), .val (.int p1), .val (.int p2), .val (.int p3), .val (.int p4), .val (.int p5), .val (.int d0), .val (.int d1), .val (.int d2), .val (.int c0), .val (.int c1), .val (.int c2), .val (.int ve), .val (.int c0), .val (.int s2), .val (.int s3), .val (.int base), .val (.ref bz2), .val (.ref bz195), .val (.int (p2 &&& (7 : Int32))), .unset, .unset, .unset, .unset, .unset, .unset] [])) t := by
      refine ⟨_, rfl, fun t k => ?_⟩
      show Steps p.tables e below (T230.setTop (mkF m 265 #[.val (.int p0), .val (.int p1), .val (.int p2), .val (.int p3), .val (.int p4), .val (.int p5), .val (.int d0), .val (.int d1), .val (.int d2), .val (.int c0), .val (.int c1), .val (.int c2), .val (.int ve), .val (.int c0), .val (.int s2), .val (.int s3), .val (.int base), .val (.ref bz2), .val (.ref bz195), .val (.int (p2 &&& (7 : Int32))), .unset, .unset, .unset, .unset, .unset, .unset] [])) _
      refine XS.iload X230.here hx rfl (hb hby at_265) rfl ?_
      show Steps p.tables e below (T230.setTop (mkF m 267 #[.val (.int p0), .val (.int p1), .val (.int p2), .val (.int p3), .val (.int p4), .val (.int p5), .val (.int d0), .val (.int d1), .val (.int d2), .val (.int c0), .val (.int c1), .val (.int c2), .val (.int ve), .val (.int c0), .val (.int s2), .val (.int s3), .val (.int base), .val (.ref bz2), .val (.ref bz195), .val (.int (p2 &&& (7 : Int32))), .unset, .unset, .unset, .unset, .unset, .unset] [(.int (p2 &&& (7 : Int32)))])) _
      by_cases hs267 : (p2 &&& (7 : Int32)) = 0
      · rw [if_pos hs267] at k
        refine XS.ifNo X230.here hx rfl (hb hby at_267) rfl (XT.i0_ne_f hs267) ?_
        show Steps p.tables e below (T230.setTop (mkF m 270 #[.val (.int p0), .val (.int p1), .val (.int p2), .val (.int p3), .val (.int p4), .val (.int p5), .val (.int d0), .val (.int d1), .val (.int d2), .val (.int c0), .val (.int c1), .val (.int c2), .val (.int ve), .val (.int c0), .val (.int s2), .val (.int s3), .val (.int base), .val (.ref bz2), .val (.ref bz195), .val (.int (p2 &&& (7 : Int32))), .unset, .unset, .unset, .unset, .unset, .unset] [])) _
        refine XS.iload X230.here hx rfl (hb hby at_270) rfl ?_
        show Steps p.tables e below (T230.setTop (mkF m 272 #[.val (.int p0), .val (.int p1), .val (.int p2), .val (.int p3), .val (.int p4), .val (.int p5), .val (.int d0), .val (.int d1), .val (.int d2), .val (.int c0), .val (.int c1), .val (.int c2), .val (.int ve), .val (.int c0), .val (.int s2), .val (.int s3), .val (.int base), .val (.ref bz2), .val (.ref bz195), .val (.int (p2 &&& (7 : Int32))), .unset, .unset, .unset, .unset, .unset, .unset] [(.int d0)])) _
        refine XS.istore X230.here hx rfl (hb hby at_272) rfl (l' := #[.val (.int p0), .val (.int p1), .val (.int p2), .val (.int p3), .val (.int p4), .val (.int p5), .val (.int d0), .val (.int d1), .val (.int d2), .val (.int c0), .val (.int c1), .val (.int c2), .val (.int ve), .val (.int c0), .val (.int s2), .val (.int s3), .val (.int base), .val (.ref bz2), .val (.ref bz195), .val (.int (p2 &&& (7 : Int32))), .val (.int d0), .unset, .unset, .unset, .unset, .unset]) rfl ?_
        show Steps p.tables e below (T230.setTop (mkF m 274 #[.val (.int p0), .val (.int p1), .val (.int p2), .val (.int p3), .val (.int p4), .val (.int p5), .val (.int d0), .val (.int d1), .val (.int d2), .val (.int c0), .val (.int c1), .val (.int c2), .val (.int ve), .val (.int c0), .val (.int s2), .val (.int s3), .val (.int base), .val (.ref bz2), .val (.ref bz195), .val (.int (p2 &&& (7 : Int32))), .val (.int d0), .unset, .unset, .unset, .unset, .unset] [])) _
        refine XS.goto X230.here hx rfl (pc0 := 274) (pc' := 367) rfl (hb hby at_274) (by decide) (by decide) ?_
        exact k
      · rw [if_neg hs267] at k
        refine XS.ifYes X230.here hx rfl (pc0 := 267) (pc' := 277) rfl (hb hby at_267) rfl (XT.i0_ne_t hs267) (by decide) (by decide) ?_
        show Steps p.tables e below (T230.setTop (mkF m 277 #[.val (.int p0), .val (.int p1), .val (.int p2), .val (.int p3), .val (.int p4), .val (.int p5), .val (.int d0), .val (.int d1), .val (.int d2), .val (.int c0), .val (.int c1), .val (.int c2), .val (.int ve), .val (.int c0), .val (.int s2), .val (.int s3), .val (.int base), .val (.ref bz2), .val (.ref bz195), .val (.int (p2 &&& (7 : Int32))), .unset, .unset, .unset, .unset, .unset, .unset] [])) _
        refine XS.iload X230.here hx rfl (hb hby at_277) rfl ?_
        show Steps p.tables e below (T230.setTop (mkF m 279 #[.val (.int p0), .val (.int p1), .val (.int p2), .val (.int p3), .val (.int p4), .val (.int p5), .val (.int d0), .val (.int d1), .val (.int d2), .val (.int c0), .val (.int c1), .val (.int c2), .val (.int ve), .val (.int c0), .val (.int s2), .val (.int s3), .val (.int base), .val (.ref bz2), .val (.ref bz195), .val (.int (p2 &&& (7 : Int32))), .unset, .unset, .unset, .unset, .unset, .unset] [(.int (p2 &&& (7 : Int32)))])) _
        refine XS.iconst X230.here hx rfl (hb hby at_279) ?_
        show Steps p.tables e below (T230.setTop (mkF m 280 #[.val (.int p0), .val (.int p1), .val (.int p2), .val (.int p3), .val (.int p4), .val (.int p5), .val (.int d0), .val (.int d1), .val (.int d2), .val (.int c0), .val (.int c1), .val (.int c2), .val (.int ve), .val (.int c0), .val (.int s2), .val (.int s3), .val (.int base), .val (.ref bz2), .val (.ref bz195), .val (.int (p2 &&& (7 : Int32))), .unset, .unset, .unset, .unset, .unset, .unset] [(.int (1 : Int32)), (.int (p2 &&& (7 : Int32)))])) _
        by_cases hs280 : (p2 &&& (7 : Int32)) = (1 : Int32)
        · rw [if_pos hs280] at k
          refine XS.icmpNo X230.here hx rfl (hb hby at_280) rfl (XT.ii_ne_f hs280) ?_
          show Steps p.tables e below (T230.setTop (mkF m 283 #[.val (.int p0), .val (.int p1), .val (.int p2), .val (.int p3), .val (.int p4), .val (.int p5), .val (.int d0), .val (.int d1), .val (.int d2), .val (.int c0), .val (.int c1), .val (.int c2), .val (.int ve), .val (.int c0), .val (.int s2), .val (.int s3), .val (.int base), .val (.ref bz2), .val (.ref bz195), .val (.int (p2 &&& (7 : Int32))), .unset, .unset, .unset, .unset, .unset, .unset] [])) _
          refine XS.iload X230.here hx rfl (hb hby at_283) rfl ?_
          show Steps p.tables e below (T230.setTop (mkF m 285 #[.val (.int p0), .val (.int p1), .val (.int p2), .val (.int p3), .val (.int p4), .val (.int p5), .val (.int d0), .val (.int d1), .val (.int d2), .val (.int c0), .val (.int c1), .val (.int c2), .val (.int ve), .val (.int c0), .val (.int s2), .val (.int s3), .val (.int base), .val (.ref bz2), .val (.ref bz195), .val (.int (p2 &&& (7 : Int32))), .unset, .unset, .unset, .unset, .unset, .unset] [(.int d1)])) _
          refine XS.istore X230.here hx rfl (hb hby at_285) rfl (l' := #[.val (.int p0), .val (.int p1), .val (.int p2), .val (.int p3), .val (.int p4), .val (.int p5), .val (.int d0), .val (.int d1), .val (.int d2), .val (.int c0), .val (.int c1), .val (.int c2), .val (.int ve), .val (.int c0), .val (.int s2), .val (.int s3), .val (.int base), .val (.ref bz2), .val (.ref bz195), .val (.int (p2 &&& (7 : Int32))), .val (.int d1), .unset, .unset, .unset, .unset, .unset]) rfl ?_
          show Steps p.tables e below (T230.setTop (mkF m 287 #[.val (.int p0), .val (.int p1), .val (.int p2), .val (.int p3), .val (.int p4), .val (.int p5), .val (.int d0), .val (.int d1), .val (.int d2), .val (.int c0), .val (.int c1), .val (.int c2), .val (.int ve), .val (.int c0), .val (.int s2), .val (.int s3), .val (.int base), .val (.ref bz2), .val (.ref bz195), .val (.int (p2 &&& (7 : Int32))), .val (.int d1), .unset, .unset, .unset, .unset, .unset] [])) _
          refine XS.goto X230.here hx rfl (pc0 := 287) (pc' := 367) rfl (hb hby at_287) (by decide) (by decide) ?_
          exact k
        · rw [if_neg hs280] at k
          refine XS.icmpYes X230.here hx rfl (pc0 := 280) (pc' := 290) rfl (hb hby at_280) rfl (XT.ii_ne_t hs280) (by decide) (by decide) ?_
          show Steps p.tables e below (T230.setTop (mkF m 290 #[.val (.int p0), .val (.int p1), .val (.int p2), .val (.int p3), .val (.int p4), .val (.int p5), .val (.int d0), .val (.int d1), .val (.int d2), .val (.int c0), .val (.int c1), .val (.int c2), .val (.int ve), .val (.int c0), .val (.int s2), .val (.int s3), .val (.int base), .val (.ref bz2), .val (.ref bz195), .val (.int (p2 &&& (7 : Int32))), .unset, .unset, .unset, .unset, .unset, .unset] [])) _
          refine XS.iload X230.here hx rfl (hb hby at_290) rfl ?_
          show Steps p.tables e below (T230.setTop (mkF m 292 #[.val (.int p0), .val (.int p1), .val (.int p2), .val (.int p3), .val (.int p4), .val (.int p5), .val (.int d0), .val (.int d1), .val (.int d2), .val (.int c0), .val (.int c1), .val (.int c2), .val (.int ve), .val (.int c0), .val (.int s2), .val (.int s3), .val (.int base), .val (.ref bz2), .val (.ref bz195), .val (.int (p2 &&& (7 : Int32))), .unset, .unset, .unset, .unset, .unset, .unset] [(.int (p2 &&& (7 : Int32)))])) _
          refine XS.iconst X230.here hx rfl (hb hby at_292) ?_
          show Steps p.tables e below (T230.setTop (mkF m 293 #[.val (.int p0), .val (.int p1), .val (.int p2), .val (.int p3), .val (.int p4), .val (.int p5), .val (.int d0), .val (.int d1), .val (.int d2), .val (.int c0), .val (.int c1), .val (.int c2), .val (.int ve), .val (.int c0), .val (.int s2), .val (.int s3), .val (.int base), .val (.ref bz2), .val (.ref bz195), .val (.int (p2 &&& (7 : Int32))), .unset, .unset, .unset, .unset, .unset, .unset] [(.int (2 : Int32)), (.int (p2 &&& (7 : Int32)))])) _
          by_cases hs293 : (p2 &&& (7 : Int32)) = (2 : Int32)
          · rw [if_pos hs293] at k
            refine XS.icmpNo X230.here hx rfl (hb hby at_293) rfl (XT.ii_ne_f hs293) ?_
            show Steps p.tables e below (T230.setTop (mkF m 296 #[.val (.int p0), .val (.int p1), .val (.int p2), .val (.int p3), .val (.int p4), .val (.int p5), .val (.int d0), .val (.int d1), .val (.int d2), .val (.int c0), .val (.int c1), .val (.int c2), .val (.int ve), .val (.int c0), .val (.int s2), .val (.int s3), .val (.int base), .val (.ref bz2), .val (.ref bz195), .val (.int (p2 &&& (7 : Int32))), .unset, .unset, .unset, .unset, .unset, .unset] [])) _
            refine XS.iload X230.here hx rfl (hb hby at_296) rfl ?_
            show Steps p.tables e below (T230.setTop (mkF m 298 #[.val (.int p0), .val (.int p1), .val (.int p2), .val (.int p3), .val (.int p4), .val (.int p5), .val (.int d0), .val (.int d1), .val (.int d2), .val (.int c0), .val (.int c1), .val (.int c2), .val (.int ve), .val (.int c0), .val (.int s2), .val (.int s3), .val (.int base), .val (.ref bz2), .val (.ref bz195), .val (.int (p2 &&& (7 : Int32))), .unset, .unset, .unset, .unset, .unset, .unset] [(.int d2)])) _
            refine XS.istore X230.here hx rfl (hb hby at_298) rfl (l' := #[.val (.int p0), .val (.int p1), .val (.int p2), .val (.int p3), .val (.int p4), .val (.int p5), .val (.int d0), .val (.int d1), .val (.int d2), .val (.int c0), .val (.int c1), .val (.int c2), .val (.int ve), .val (.int c0), .val (.int s2), .val (.int s3), .val (.int base), .val (.ref bz2), .val (.ref bz195), .val (.int (p2 &&& (7 : Int32))), .val (.int d2), .unset, .unset, .unset, .unset, .unset]) rfl ?_
            show Steps p.tables e below (T230.setTop (mkF m 300 #[.val (.int p0), .val (.int p1), .val (.int p2), .val (.int p3), .val (.int p4), .val (.int p5), .val (.int d0), .val (.int d1), .val (.int d2), .val (.int c0), .val (.int c1), .val (.int c2), .val (.int ve), .val (.int c0), .val (.int s2), .val (.int s3), .val (.int base), .val (.ref bz2), .val (.ref bz195), .val (.int (p2 &&& (7 : Int32))), .val (.int d2), .unset, .unset, .unset, .unset, .unset] [])) _
            refine XS.goto X230.here hx rfl (pc0 := 300) (pc' := 367) rfl (hb hby at_300) (by decide) (by decide) ?_
            exact k
          · rw [if_neg hs293] at k
            refine XS.icmpYes X230.here hx rfl (pc0 := 293) (pc' := 303) rfl (hb hby at_293) rfl (XT.ii_ne_t hs293) (by decide) (by decide) ?_
            show Steps p.tables e below (T230.setTop (mkF m 303 #[.val (.int p0), .val (.int p1), .val (.int p2), .val (.int p3), .val (.int p4), .val (.int p5), .val (.int d0), .val (.int d1), .val (.int d2), .val (.int c0), .val (.int c1), .val (.int c2), .val (.int ve), .val (.int c0), .val (.int s2), .val (.int s3), .val (.int base), .val (.ref bz2), .val (.ref bz195), .val (.int (p2 &&& (7 : Int32))), .unset, .unset, .unset, .unset, .unset, .unset] [])) _
            refine XS.iload X230.here hx rfl (hb hby at_303) rfl ?_
            show Steps p.tables e below (T230.setTop (mkF m 305 #[.val (.int p0), .val (.int p1), .val (.int p2), .val (.int p3), .val (.int p4), .val (.int p5), .val (.int d0), .val (.int d1), .val (.int d2), .val (.int c0), .val (.int c1), .val (.int c2), .val (.int ve), .val (.int c0), .val (.int s2), .val (.int s3), .val (.int base), .val (.ref bz2), .val (.ref bz195), .val (.int (p2 &&& (7 : Int32))), .unset, .unset, .unset, .unset, .unset, .unset] [(.int (p2 &&& (7 : Int32)))])) _
            refine XS.iconst X230.here hx rfl (hb hby at_305) ?_
            show Steps p.tables e below (T230.setTop (mkF m 306 #[.val (.int p0), .val (.int p1), .val (.int p2), .val (.int p3), .val (.int p4), .val (.int p5), .val (.int d0), .val (.int d1), .val (.int d2), .val (.int c0), .val (.int c1), .val (.int c2), .val (.int ve), .val (.int c0), .val (.int s2), .val (.int s3), .val (.int base), .val (.ref bz2), .val (.ref bz195), .val (.int (p2 &&& (7 : Int32))), .unset, .unset, .unset, .unset, .unset, .unset] [(.int (3 : Int32)), (.int (p2 &&& (7 : Int32)))])) _
            by_cases hs306 : (p2 &&& (7 : Int32)) = (3 : Int32)
            · rw [if_pos hs306] at k
              refine XS.icmpNo X230.here hx rfl (hb hby at_306) rfl (XT.ii_ne_f hs306) ?_
              show Steps p.tables e below (T230.setTop (mkF m 309 #[.val (.int p0), .val (.int p1), .val (.int p2), .val (.int p3), .val (.int p4), .val (.int p5), .val (.int d0), .val (.int d1), .val (.int d2), .val (.int c0), .val (.int c1), .val (.int c2), .val (.int ve), .val (.int c0), .val (.int s2), .val (.int s3), .val (.int base), .val (.ref bz2), .val (.ref bz195), .val (.int (p2 &&& (7 : Int32))), .unset, .unset, .unset, .unset, .unset, .unset] [])) _
              refine XS.iload X230.here hx rfl (hb hby at_309) rfl ?_
              show Steps p.tables e below (T230.setTop (mkF m 311 #[.val (.int p0), .val (.int p1), .val (.int p2), .val (.int p3), .val (.int p4), .val (.int p5), .val (.int d0), .val (.int d1), .val (.int d2), .val (.int c0), .val (.int c1), .val (.int c2), .val (.int ve), .val (.int c0), .val (.int s2), .val (.int s3), .val (.int base), .val (.ref bz2), .val (.ref bz195), .val (.int (p2 &&& (7 : Int32))), .unset, .unset, .unset, .unset, .unset, .unset] [(.int d0)])) _
              refine XS.iconst X230.here hx rfl (hb hby at_311) ?_
              show Steps p.tables e below (T230.setTop (mkF m 312 #[.val (.int p0), .val (.int p1), .val (.int p2), .val (.int p3), .val (.int p4), .val (.int p5), .val (.int d0), .val (.int d1), .val (.int d2), .val (.int c0), .val (.int c1), .val (.int c2), .val (.int ve), .val (.int c0), .val (.int s2), .val (.int s3), .val (.int base), .val (.ref bz2), .val (.ref bz195), .val (.int (p2 &&& (7 : Int32))), .unset, .unset, .unset, .unset, .unset, .unset] [(.int (1 : Int32)), (.int d0)])) _
              refine XS.isub X230.here hx rfl (hb hby at_312) rfl ?_
              show Steps p.tables e below (T230.setTop (mkF m 313 #[.val (.int p0), .val (.int p1), .val (.int p2), .val (.int p3), .val (.int p4), .val (.int p5), .val (.int d0), .val (.int d1), .val (.int d2), .val (.int c0), .val (.int c1), .val (.int c2), .val (.int ve), .val (.int c0), .val (.int s2), .val (.int s3), .val (.int base), .val (.ref bz2), .val (.ref bz195), .val (.int (p2 &&& (7 : Int32))), .unset, .unset, .unset, .unset, .unset, .unset] [(.int (d0 - (1 : Int32)))])) _
              refine XS.istore X230.here hx rfl (hb hby at_313) rfl (l' := #[.val (.int p0), .val (.int p1), .val (.int p2), .val (.int p3), .val (.int p4), .val (.int p5), .val (.int d0), .val (.int d1), .val (.int d2), .val (.int c0), .val (.int c1), .val (.int c2), .val (.int ve), .val (.int c0), .val (.int s2), .val (.int s3), .val (.int base), .val (.ref bz2), .val (.ref bz195), .val (.int (p2 &&& (7 : Int32))), .val (.int (d0 - (1 : Int32))), .unset, .unset, .unset, .unset, .unset]) rfl ?_
              show Steps p.tables e below (T230.setTop (mkF m 315 #[.val (.int p0), .val (.int p1), .val (.int p2), .val (.int p3), .val (.int p4), .val (.int p5), .val (.int d0), .val (.int d1), .val (.int d2), .val (.int c0), .val (.int c1), .val (.int c2), .val (.int ve), .val (.int c0), .val (.int s2), .val (.int s3), .val (.int base), .val (.ref bz2), .val (.ref bz195), .val (.int (p2 &&& (7 : Int32))), .val (.int (d0 - (1 : Int32))), .unset, .unset, .unset, .unset, .unset] [])) _
              refine XS.goto X230.here hx rfl (pc0 := 315) (pc' := 367) rfl (hb hby at_315) (by decide) (by decide) ?_
              exact k
            · rw [if_neg hs306] at k
              refine XS.icmpYes X230.here hx rfl (pc0 := 306) (pc' := 318) rfl (hb hby at_306) rfl (XT.ii_ne_t hs306) (by decide) (by decide) ?_
              show Steps p.tables e below (T230.setTop (mkF m 318 #[.val (.int p0), .val (.int p1), .val (.int p2), .val (.int p3), .val (.int p4), .val (.int p5), .val (.int d0), .val (.int d1), .val (.int d2), .val (.int c0), .val (.int c1), .val (.int c2), .val (.int ve), .val (.int c0), .val (.int s2), .val (.int s3), .val (.int base), .val (.ref bz2), .val (.ref bz195), .val (.int (p2 &&& (7 : Int32))), .unset, .unset, .unset, .unset, .unset, .unset] [])) _
              refine XS.iload X230.here hx rfl (hb hby at_318) rfl ?_
              show Steps p.tables e below (T230.setTop (mkF m 320 #[.val (.int p0), .val (.int p1), .val (.int p2), .val (.int p3), .val (.int p4), .val (.int p5), .val (.int d0), .val (.int d1), .val (.int d2), .val (.int c0), .val (.int c1), .val (.int c2), .val (.int ve), .val (.int c0), .val (.int s2), .val (.int s3), .val (.int base), .val (.ref bz2), .val (.ref bz195), .val (.int (p2 &&& (7 : Int32))), .unset, .unset, .unset, .unset, .unset, .unset] [(.int (p2 &&& (7 : Int32)))])) _
              refine XS.iconst X230.here hx rfl (hb hby at_320) ?_
              show Steps p.tables e below (T230.setTop (mkF m 321 #[.val (.int p0), .val (.int p1), .val (.int p2), .val (.int p3), .val (.int p4), .val (.int p5), .val (.int d0), .val (.int d1), .val (.int d2), .val (.int c0), .val (.int c1), .val (.int c2), .val (.int ve), .val (.int c0), .val (.int s2), .val (.int s3), .val (.int base), .val (.ref bz2), .val (.ref bz195), .val (.int (p2 &&& (7 : Int32))), .unset, .unset, .unset, .unset, .unset, .unset] [(.int (4 : Int32)), (.int (p2 &&& (7 : Int32)))])) _
              by_cases hs321 : (p2 &&& (7 : Int32)) = (4 : Int32)
              · rw [if_pos hs321] at k
                refine XS.icmpNo X230.here hx rfl (hb hby at_321) rfl (XT.ii_ne_f hs321) ?_
                show Steps p.tables e below (T230.setTop (mkF m 324 #[.val (.int p0), .val (.int p1), .val (.int p2), .val (.int p3), .val (.int p4), .val (.int p5), .val (.int d0), .val (.int d1), .val (.int d2), .val (.int c0), .val (.int c1), .val (.int c2), .val (.int ve), .val (.int c0), .val (.int s2), .val (.int s3), .val (.int base), .val (.ref bz2), .val (.ref bz195), .val (.int (p2 &&& (7 : Int32))), .unset, .unset, .unset, .unset, .unset, .unset] [])) _
                refine XS.iload X230.here hx rfl (hb hby at_324) rfl ?_
                show Steps p.tables e below (T230.setTop (mkF m 326 #[.val (.int p0), .val (.int p1), .val (.int p2), .val (.int p3), .val (.int p4), .val (.int p5), .val (.int d0), .val (.int d1), .val (.int d2), .val (.int c0), .val (.int c1), .val (.int c2), .val (.int ve), .val (.int c0), .val (.int s2), .val (.int s3), .val (.int base), .val (.ref bz2), .val (.ref bz195), .val (.int (p2 &&& (7 : Int32))), .unset, .unset, .unset, .unset, .unset, .unset] [(.int d1)])) _
                refine XS.iconst X230.here hx rfl (hb hby at_326) ?_
                show Steps p.tables e below (T230.setTop (mkF m 327 #[.val (.int p0), .val (.int p1), .val (.int p2), .val (.int p3), .val (.int p4), .val (.int p5), .val (.int d0), .val (.int d1), .val (.int d2), .val (.int c0), .val (.int c1), .val (.int c2), .val (.int ve), .val (.int c0), .val (.int s2), .val (.int s3), .val (.int base), .val (.ref bz2), .val (.ref bz195), .val (.int (p2 &&& (7 : Int32))), .unset, .unset, .unset, .unset, .unset, .unset] [(.int (1 : Int32)), (.int d1)])) _
                refine XS.isub X230.here hx rfl (hb hby at_327) rfl ?_
                show Steps p.tables e below (T230.setTop (mkF m 328 #[.val (.int p0), .val (.int p1), .val (.int p2), .val (.int p3), .val (.int p4), .val (.int p5), .val (.int d0), .val (.int d1), .val (.int d2), .val (.int c0), .val (.int c1), .val (.int c2), .val (.int ve), .val (.int c0), .val (.int s2), .val (.int s3), .val (.int base), .val (.ref bz2), .val (.ref bz195), .val (.int (p2 &&& (7 : Int32))), .unset, .unset, .unset, .unset, .unset, .unset] [(.int (d1 - (1 : Int32)))])) _
                refine XS.istore X230.here hx rfl (hb hby at_328) rfl (l' := #[.val (.int p0), .val (.int p1), .val (.int p2), .val (.int p3), .val (.int p4), .val (.int p5), .val (.int d0), .val (.int d1), .val (.int d2), .val (.int c0), .val (.int c1), .val (.int c2), .val (.int ve), .val (.int c0), .val (.int s2), .val (.int s3), .val (.int base), .val (.ref bz2), .val (.ref bz195), .val (.int (p2 &&& (7 : Int32))), .val (.int (d1 - (1 : Int32))), .unset, .unset, .unset, .unset, .unset]) rfl ?_
                show Steps p.tables e below (T230.setTop (mkF m 330 #[.val (.int p0), .val (.int p1), .val (.int p2), .val (.int p3), .val (.int p4), .val (.int p5), .val (.int d0), .val (.int d1), .val (.int d2), .val (.int c0), .val (.int c1), .val (.int c2), .val (.int ve), .val (.int c0), .val (.int s2), .val (.int s3), .val (.int base), .val (.ref bz2), .val (.ref bz195), .val (.int (p2 &&& (7 : Int32))), .val (.int (d1 - (1 : Int32))), .unset, .unset, .unset, .unset, .unset] [])) _
                refine XS.goto X230.here hx rfl (pc0 := 330) (pc' := 367) rfl (hb hby at_330) (by decide) (by decide) ?_
                exact k
              · rw [if_neg hs321] at k
                refine XS.icmpYes X230.here hx rfl (pc0 := 321) (pc' := 333) rfl (hb hby at_321) rfl (XT.ii_ne_t hs321) (by decide) (by decide) ?_
                show Steps p.tables e below (T230.setTop (mkF m 333 #[.val (.int p0), .val (.int p1), .val (.int p2), .val (.int p3), .val (.int p4), .val (.int p5), .val (.int d0), .val (.int d1), .val (.int d2), .val (.int c0), .val (.int c1), .val (.int c2), .val (.int ve), .val (.int c0), .val (.int s2), .val (.int s3), .val (.int base), .val (.ref bz2), .val (.ref bz195), .val (.int (p2 &&& (7 : Int32))), .unset, .unset, .unset, .unset, .unset, .unset] [])) _
                refine XS.iload X230.here hx rfl (hb hby at_333) rfl ?_
                show Steps p.tables e below (T230.setTop (mkF m 335 #[.val (.int p0), .val (.int p1), .val (.int p2), .val (.int p3), .val (.int p4), .val (.int p5), .val (.int d0), .val (.int d1), .val (.int d2), .val (.int c0), .val (.int c1), .val (.int c2), .val (.int ve), .val (.int c0), .val (.int s2), .val (.int s3), .val (.int base), .val (.ref bz2), .val (.ref bz195), .val (.int (p2 &&& (7 : Int32))), .unset, .unset, .unset, .unset, .unset, .unset] [(.int (p2 &&& (7 : Int32)))])) _
                refine XS.iconst X230.here hx rfl (hb hby at_335) ?_
                show Steps p.tables e below (T230.setTop (mkF m 336 #[.val (.int p0), .val (.int p1), .val (.int p2), .val (.int p3), .val (.int p4), .val (.int p5), .val (.int d0), .val (.int d1), .val (.int d2), .val (.int c0), .val (.int c1), .val (.int c2), .val (.int ve), .val (.int c0), .val (.int s2), .val (.int s3), .val (.int base), .val (.ref bz2), .val (.ref bz195), .val (.int (p2 &&& (7 : Int32))), .unset, .unset, .unset, .unset, .unset, .unset] [(.int (5 : Int32)), (.int (p2 &&& (7 : Int32)))])) _
                by_cases hs336 : (p2 &&& (7 : Int32)) = (5 : Int32)
                · rw [if_pos hs336] at k
                  refine XS.icmpNo X230.here hx rfl (hb hby at_336) rfl (XT.ii_ne_f hs336) ?_
                  show Steps p.tables e below (T230.setTop (mkF m 339 #[.val (.int p0), .val (.int p1), .val (.int p2), .val (.int p3), .val (.int p4), .val (.int p5), .val (.int d0), .val (.int d1), .val (.int d2), .val (.int c0), .val (.int c1), .val (.int c2), .val (.int ve), .val (.int c0), .val (.int s2), .val (.int s3), .val (.int base), .val (.ref bz2), .val (.ref bz195), .val (.int (p2 &&& (7 : Int32))), .unset, .unset, .unset, .unset, .unset, .unset] [])) _
                  refine XS.iload X230.here hx rfl (hb hby at_339) rfl ?_
                  show Steps p.tables e below (T230.setTop (mkF m 341 #[.val (.int p0), .val (.int p1), .val (.int p2), .val (.int p3), .val (.int p4), .val (.int p5), .val (.int d0), .val (.int d1), .val (.int d2), .val (.int c0), .val (.int c1), .val (.int c2), .val (.int ve), .val (.int c0), .val (.int s2), .val (.int s3), .val (.int base), .val (.ref bz2), .val (.ref bz195), .val (.int (p2 &&& (7 : Int32))), .unset, .unset, .unset, .unset, .unset, .unset] [(.int d2)])) _
                  refine XS.iconst X230.here hx rfl (hb hby at_341) ?_
                  show Steps p.tables e below (T230.setTop (mkF m 342 #[.val (.int p0), .val (.int p1), .val (.int p2), .val (.int p3), .val (.int p4), .val (.int p5), .val (.int d0), .val (.int d1), .val (.int d2), .val (.int c0), .val (.int c1), .val (.int c2), .val (.int ve), .val (.int c0), .val (.int s2), .val (.int s3), .val (.int base), .val (.ref bz2), .val (.ref bz195), .val (.int (p2 &&& (7 : Int32))), .unset, .unset, .unset, .unset, .unset, .unset] [(.int (1 : Int32)), (.int d2)])) _
                  refine XS.isub X230.here hx rfl (hb hby at_342) rfl ?_
                  show Steps p.tables e below (T230.setTop (mkF m 343 #[.val (.int p0), .val (.int p1), .val (.int p2), .val (.int p3), .val (.int p4), .val (.int p5), .val (.int d0), .val (.int d1), .val (.int d2), .val (.int c0), .val (.int c1), .val (.int c2), .val (.int ve), .val (.int c0), .val (.int s2), .val (.int s3), .val (.int base), .val (.ref bz2), .val (.ref bz195), .val (.int (p2 &&& (7 : Int32))), .unset, .unset, .unset, .unset, .unset, .unset] [(.int (d2 - (1 : Int32)))])) _
                  refine XS.istore X230.here hx rfl (hb hby at_343) rfl (l' := #[.val (.int p0), .val (.int p1), .val (.int p2), .val (.int p3), .val (.int p4), .val (.int p5), .val (.int d0), .val (.int d1), .val (.int d2), .val (.int c0), .val (.int c1), .val (.int c2), .val (.int ve), .val (.int c0), .val (.int s2), .val (.int s3), .val (.int base), .val (.ref bz2), .val (.ref bz195), .val (.int (p2 &&& (7 : Int32))), .val (.int (d2 - (1 : Int32))), .unset, .unset, .unset, .unset, .unset]) rfl ?_
                  show Steps p.tables e below (T230.setTop (mkF m 345 #[.val (.int p0), .val (.int p1), .val (.int p2), .val (.int p3), .val (.int p4), .val (.int p5), .val (.int d0), .val (.int d1), .val (.int d2), .val (.int c0), .val (.int c1), .val (.int c2), .val (.int ve), .val (.int c0), .val (.int s2), .val (.int s3), .val (.int base), .val (.ref bz2), .val (.ref bz195), .val (.int (p2 &&& (7 : Int32))), .val (.int (d2 - (1 : Int32))), .unset, .unset, .unset, .unset, .unset] [])) _
                  refine XS.goto X230.here hx rfl (pc0 := 345) (pc' := 367) rfl (hb hby at_345) (by decide) (by decide) ?_
                  exact k
                · rw [if_neg hs336] at k
                  refine XS.icmpYes X230.here hx rfl (pc0 := 336) (pc' := 348) rfl (hb hby at_336) rfl (XT.ii_ne_t hs336) (by decide) (by decide) ?_
                  show Steps p.tables e below (T230.setTop (mkF m 348 #[.val (.int p0), .val (.int p1), .val (.int p2), .val (.int p3), .val (.int p4), .val (.int p5), .val (.int d0), .val (.int d1), .val (.int d2), .val (.int c0), .val (.int c1), .val (.int c2), .val (.int ve), .val (.int c0), .val (.int s2), .val (.int s3), .val (.int base), .val (.ref bz2), .val (.ref bz195), .val (.int (p2 &&& (7 : Int32))), .unset, .unset, .unset, .unset, .unset, .unset] [])) _
                  refine XS.iload X230.here hx rfl (hb hby at_348) rfl ?_
                  show Steps p.tables e below (T230.setTop (mkF m 350 #[.val (.int p0), .val (.int p1), .val (.int p2), .val (.int p3), .val (.int p4), .val (.int p5), .val (.int d0), .val (.int d1), .val (.int d2), .val (.int c0), .val (.int c1), .val (.int c2), .val (.int ve), .val (.int c0), .val (.int s2), .val (.int s3), .val (.int base), .val (.ref bz2), .val (.ref bz195), .val (.int (p2 &&& (7 : Int32))), .unset, .unset, .unset, .unset, .unset, .unset] [(.int (p2 &&& (7 : Int32)))])) _
                  refine XS.bipush X230.here hx rfl (hb hby at_350) ?_
                  show Steps p.tables e below (T230.setTop (mkF m 352 #[.val (.int p0), .val (.int p1), .val (.int p2), .val (.int p3), .val (.int p4), .val (.int p5), .val (.int d0), .val (.int d1), .val (.int d2), .val (.int c0), .val (.int c1), .val (.int c2), .val (.int ve), .val (.int c0), .val (.int s2), .val (.int s3), .val (.int base), .val (.ref bz2), .val (.ref bz195), .val (.int (p2 &&& (7 : Int32))), .unset, .unset, .unset, .unset, .unset, .unset] [(.int (6 : Int32)), (.int (p2 &&& (7 : Int32)))])) _
                  by_cases hs352 : (p2 &&& (7 : Int32)) = (6 : Int32)
                  · rw [if_pos hs352] at k
                    refine XS.icmpNo X230.here hx rfl (hb hby at_352) rfl (XT.ii_ne_f hs352) ?_
                    show Steps p.tables e below (T230.setTop (mkF m 355 #[.val (.int p0), .val (.int p1), .val (.int p2), .val (.int p3), .val (.int p4), .val (.int p5), .val (.int d0), .val (.int d1), .val (.int d2), .val (.int c0), .val (.int c1), .val (.int c2), .val (.int ve), .val (.int c0), .val (.int s2), .val (.int s3), .val (.int base), .val (.ref bz2), .val (.ref bz195), .val (.int (p2 &&& (7 : Int32))), .unset, .unset, .unset, .unset, .unset, .unset] [])) _
                    refine XS.iload X230.here hx rfl (hb hby at_355) rfl ?_
                    show Steps p.tables e below (T230.setTop (mkF m 357 #[.val (.int p0), .val (.int p1), .val (.int p2), .val (.int p3), .val (.int p4), .val (.int p5), .val (.int d0), .val (.int d1), .val (.int d2), .val (.int c0), .val (.int c1), .val (.int c2), .val (.int ve), .val (.int c0), .val (.int s2), .val (.int s3), .val (.int base), .val (.ref bz2), .val (.ref bz195), .val (.int (p2 &&& (7 : Int32))), .unset, .unset, .unset, .unset, .unset, .unset] [(.int d2)])) _
                    refine XS.iconst X230.here hx rfl (hb hby at_357) ?_
                    show Steps p.tables e below (T230.setTop (mkF m 358 #[.val (.int p0), .val (.int p1), .val (.int p2), .val (.int p3), .val (.int p4), .val (.int p5), .val (.int d0), .val (.int d1), .val (.int d2), .val (.int c0), .val (.int c1), .val (.int c2), .val (.int ve), .val (.int c0), .val (.int s2), .val (.int s3), .val (.int base), .val (.ref bz2), .val (.ref bz195), .val (.int (p2 &&& (7 : Int32))), .unset, .unset, .unset, .unset, .unset, .unset] [(.int (1 : Int32)), (.int d2)])) _
                    refine XS.iadd X230.here hx rfl (hb hby at_358) rfl ?_
                    show Steps p.tables e below (T230.setTop (mkF m 359 #[.val (.int p0), .val (.int p1), .val (.int p2), .val (.int p3), .val (.int p4), .val (.int p5), .val (.int d0), .val (.int d1), .val (.int d2), .val (.int c0), .val (.int c1), .val (.int c2), .val (.int ve), .val (.int c0), .val (.int s2), .val (.int s3), .val (.int base), .val (.ref bz2), .val (.ref bz195), .val (.int (p2 &&& (7 : Int32))), .unset, .unset, .unset, .unset, .unset, .unset] [(.int (d2 + (1 : Int32)))])) _
                    refine XS.istore X230.here hx rfl (hb hby at_359) rfl (l' := #[.val (.int p0), .val (.int p1), .val (.int p2), .val (.int p3), .val (.int p4), .val (.int p5), .val (.int d0), .val (.int d1), .val (.int d2), .val (.int c0), .val (.int c1), .val (.int c2), .val (.int ve), .val (.int c0), .val (.int s2), .val (.int s3), .val (.int base), .val (.ref bz2), .val (.ref bz195), .val (.int (p2 &&& (7 : Int32))), .val (.int (d2 + (1 : Int32))), .unset, .unset, .unset, .unset, .unset]) rfl ?_
                    show Steps p.tables e below (T230.setTop (mkF m 361 #[.val (.int p0), .val (.int p1), .val (.int p2), .val (.int p3), .val (.int p4), .val (.int p5), .val (.int d0), .val (.int d1), .val (.int d2), .val (.int c0), .val (.int c1), .val (.int c2), .val (.int ve), .val (.int c0), .val (.int s2), .val (.int s3), .val (.int base), .val (.ref bz2), .val (.ref bz195), .val (.int (p2 &&& (7 : Int32))), .val (.int (d2 + (1 : Int32))), .unset, .unset, .unset, .unset, .unset] [])) _
                    refine XS.goto X230.here hx rfl (pc0 := 361) (pc' := 367) rfl (hb hby at_361) (by decide) (by decide) ?_
                    exact k
                  · rw [if_neg hs352] at k
                    refine XS.icmpYes X230.here hx rfl (pc0 := 352) (pc' := 364) rfl (hb hby at_352) rfl (XT.ii_ne_t hs352) (by decide) (by decide) ?_
                    show Steps p.tables e below (T230.setTop (mkF m 364 #[.val (.int p0), .val (.int p1), .val (.int p2), .val (.int p3), .val (.int p4), .val (.int p5), .val (.int d0), .val (.int d1), .val (.int d2), .val (.int c0), .val (.int c1), .val (.int c2), .val (.int ve), .val (.int c0), .val (.int s2), .val (.int s3), .val (.int base), .val (.ref bz2), .val (.ref bz195), .val (.int (p2 &&& (7 : Int32))), .unset, .unset, .unset, .unset, .unset, .unset] [])) _
                    refine XS.iloadN X230.here hx rfl (hb hby at_364) rfl ?_
                    show Steps p.tables e below (T230.setTop (mkF m 365 #[.val (.int p0), .val (.int p1), .val (.int p2), .val (.int p3), .val (.int p4), .val (.int p5), .val (.int d0), .val (.int d1), .val (.int d2), .val (.int c0), .val (.int c1), .val (.int c2), .val (.int ve), .val (.int c0), .val (.int s2), .val (.int s3), .val (.int base), .val (.ref bz2), .val (.ref bz195), .val (.int (p2 &&& (7 : Int32))), .unset, .unset, .unset, .unset, .unset, .unset] [(.int p3)])) _
                    refine XS.istore X230.here hx rfl (hb hby at_365) rfl (l' := #[.val (.int p0), .val (.int p1), .val (.int p2), .val (.int p3), .val (.int p4), .val (.int p5), .val (.int d0), .val (.int d1), .val (.int d2), .val (.int c0), .val (.int c1), .val (.int c2), .val (.int ve), .val (.int c0), .val (.int s2), .val (.int s3), .val (.int base), .val (.ref bz2), .val (.ref bz195), .val (.int (p2 &&& (7 : Int32))), .val (.int p3), .unset, .unset, .unset, .unset, .unset]) rfl ?_
                    exact k
    refine OGo.st st237 ?_
    show OGo p.tables e below _ (T230.setTop (mkF m 367 #[.val (.int p0), .val (.int p1), .val (.int p2), .val (.int p3), .val (.int p4), .val (.int p5), .val (.int d0), .val (.int d1), .val (.int d2), .val (.int c0), .val (.int c1), .val (.int c2), .val (.int ve), .val (.int c0), .val (.int s2), .val (.int s3), .val (.int base), .val (.ref bz2), .val (.ref bz195), .val (.int (p2 &&& (7 : Int32))), .val (.int q), .unset, .unset, .unset, .unset, .unset] []))
    refine OGo.st (fun _ k_ => XS.aload X230.here hx rfl (hb hby at_367) rfl rfl k_) ?_
    show OGo p.tables e below _ (T230.setTop (mkF m 369 #[.val (.int p0), .val (.int p1), .val (.int p2), .val (.int p3), .val (.int p4), .val (.int p5), .val (.int d0), .val (.int d1), .val (.int d2), .val (.int c0), .val (.int c1), .val (.int c2), .val (.int ve), .val (.int c0), .val (.int s2), .val (.int s3), .val (.int base), .val (.ref bz2), .val (.ref bz195), .val (.int (p2 &&& (7 : Int32))), .val (.int q), .unset, .unset, .unset, .unset, .unset] [(.ref bz195)]))
    refine OGo.st (fun _ k_ => XS.iload X230.here hx rfl (hb hby at_369) rfl k_) ?_
    show OGo p.tables e below _ (T230.setTop (mkF m 371 #[.val (.int p0), .val (.int p1), .val (.int p2), .val (.int p3), .val (.int p4), .val (.int p5), .val (.int d0), .val (.int d1), .val (.int d2), .val (.int c0), .val (.int c1), .val (.int c2), .val (.int ve), .val (.int c0), .val (.int s2), .val (.int s3), .val (.int base), .val (.ref bz2), .val (.ref bz195), .val (.int (p2 &&& (7 : Int32))), .val (.int q), .unset, .unset, .unset, .unset, .unset] [(.int q), (.ref bz195)]))
    obtain ⟨cq238, kqz238, qz238a, qz238b, qz238c⟩ := isOf hZ rfl Ex_232
    obtain ⟨_, _, ⟨T238, Lz238, kz238, nz238⟩, -, X238, ⟨Lc238, hQ238, lz238, yz238, zz238⟩, st238⟩ := X230.virtualBack hx (y := (⟨"com/example/cari/cari/index/Positions", "in", "(I)[I"⟩ : MethodName)) (z := (⟨"com/example/cari/cari/index/Positions", "in", "(I)[I"⟩ : MethodName)) hown (mvT hZ (hw _ (List.mem_of_getElem? (i := 17) rfl))) (mvT hZ (hw _ (List.mem_of_getElem? (i := 18) rfl))) (notFace_of_selects (args := #[]) (mvT hZ (hw _ (List.mem_of_getElem? (i := 20) rfl)))) (mvT hZ (hw _ (List.mem_of_getElem? (i := 20) rfl))) (mvT hZ (hw _ (List.mem_of_getElem? (i := 19) rfl))) (by decide) (backOf (W := 0) (rm14 l Z a0 hw [] bz195 q bz198 bz205 bz221 kz198 kz205 kz221 (fun _ => (.int (0 : Int32))) T230.heap n0 (Nat.le_trans Z0 K_236.1) qz230_0 Af_233) hZ (hw _ (List.mem_of_getElem? (i := 21) rfl)) (hw _ (List.mem_of_getElem? (i := 4) rfl)) (by decide) (by decide)) qz238a qz238c (g := (mkF m 371 #[.val (.int p0), .val (.int p1), .val (.int p2), .val (.int p3), .val (.int p4), .val (.int p5), .val (.int d0), .val (.int d1), .val (.int d2), .val (.int c0), .val (.int c1), .val (.int c2), .val (.int ve), .val (.int c0), .val (.int s2), .val (.int s3), .val (.int base), .val (.ref bz2), .val (.ref bz195), .val (.int (p2 &&& (7 : Int32))), .val (.int q), .unset, .unset, .unset, .unset, .unset] [(.int q), (.ref bz195)])) rfl (by rw [hml]; rfl) (Steps.refl _) (argsL := [(.int q)]) (rest := []) (lenOf own_pd6 rfl) rfl (by show 2 * 0 + _ ≤ _; exact Nat.le_of_eq rfl) (hb hby at_371) (fun _ _ => ⟨rfl, rfl, (by decide : 5 + 1 ≤ _), (by decide : 13 + 0 ≤ _)⟩)
    dsimp only [Pt.U, Pt.locs, Pt.cells, Pt.slots] at X238 lz238 yz238 zz238 st238 hQ238
    have X238 := own_reb X238 lz238 yz238 zz238
    have X238 : Stand p l e room_1 s m #[(.int p0), (.int p1), (.int p2), (.int p3), (.int p4), (.int p5)] below meth c T238 _ 6 13 := X238
    obtain ⟨rb238, kr238, rfl, Nq238, Kq238, szr238, Ar238⟩ := hQ238
    have N238 := Fr.app N230 Nq238
    have ne_bz2_rb238 : bz2 ≠ rb238 := Nat.ne_of_lt (Nat.lt_of_lt_of_le Af_231.lt szr238)
    have ne_bz195_rb238 : bz195 ≠ rb238 := Nat.ne_of_lt (Nat.lt_of_lt_of_le Ex_232.lt szr238)
    have ne_bz198_rb238 : bz198 ≠ rb238 := Nat.ne_of_lt (Nat.lt_of_lt_of_le Af_233.lt szr238)
    have ne_bz205_rb238 : bz205 ≠ rb238 := Nat.ne_of_lt (Nat.lt_of_lt_of_le Af_234.lt szr238)
    have ne_bz221_rb238 : bz221 ≠ rb238 := Nat.ne_of_lt (Nat.lt_of_lt_of_le Af_235.lt szr238)
    have g_rb238 : n0 ≤ rb238 := Nat.le_trans (Nat.le_trans Z0 K_236.1) szr238
    have sz_rb238 : h0.size ≤ rb238 := Nat.le_trans K_236.1 szr238
    have Af_239 := Af_231.keep Kq238 nin0
    have Ex_240 := Ex_232.keep Kq238
    have Af_241 := Af_233.keep Kq238 nin0
    have Af_242 := Af_234.keep Kq238 nin0
    have Af_243 := Af_235.keep Kq238 nin0
    have F_244 := qz230_0.keep Kq238 nin0
    have F_245 := qz230_1.keep Kq238 nin0
    have F_246 := qz230_2.keep Kq238 nin0
    have K_247 : Keep h0 T238.heap [] := K_236.trans Kq238 all0
    refine OGo.tr st238 ?_
    show OGo p.tables e below _ (T238.setTop (mkF m 374 #[.val (.int p0), .val (.int p1), .val (.int p2), .val (.int p3), .val (.int p4), .val (.int p5), .val (.int d0), .val (.int d1), .val (.int d2), .val (.int c0), .val (.int c1), .val (.int c2), .val (.int ve), .val (.int c0), .val (.int s2), .val (.int s3), .val (.int base), .val (.ref bz2), .val (.ref bz195), .val (.int (p2 &&& (7 : Int32))), .val (.int q), .unset, .unset, .unset, .unset, .unset] [(.ref rb238)]))
    refine OGo.st (fun _ k_ => XS.astore X238.here hx rfl (hb hby at_374) rfl rfl (l' := #[.val (.int p0), .val (.int p1), .val (.int p2), .val (.int p3), .val (.int p4), .val (.int p5), .val (.int d0), .val (.int d1), .val (.int d2), .val (.int c0), .val (.int c1), .val (.int c2), .val (.int ve), .val (.int c0), .val (.int s2), .val (.int s3), .val (.int base), .val (.ref bz2), .val (.ref bz195), .val (.int (p2 &&& (7 : Int32))), .val (.int q), .val (.ref rb238), .unset, .unset, .unset, .unset]) rfl k_) ?_
    show OGo p.tables e below _ (T238.setTop (mkF m 376 #[.val (.int p0), .val (.int p1), .val (.int p2), .val (.int p3), .val (.int p4), .val (.int p5), .val (.int d0), .val (.int d1), .val (.int d2), .val (.int c0), .val (.int c1), .val (.int c2), .val (.int ve), .val (.int c0), .val (.int s2), .val (.int s3), .val (.int base), .val (.ref bz2), .val (.ref bz195), .val (.int (p2 &&& (7 : Int32))), .val (.int q), .val (.ref rb238), .unset, .unset, .unset, .unset] []))
    refine OGo.st (fun _ k_ => XS.aload X238.here hx rfl (hb hby at_376) rfl rfl k_) ?_
    show OGo p.tables e below _ (T238.setTop (mkF m 378 #[.val (.int p0), .val (.int p1), .val (.int p2), .val (.int p3), .val (.int p4), .val (.int p5), .val (.int d0), .val (.int d1), .val (.int d2), .val (.int c0), .val (.int c1), .val (.int c2), .val (.int ve), .val (.int c0), .val (.int s2), .val (.int s3), .val (.int base), .val (.ref bz2), .val (.ref bz195), .val (.int (p2 &&& (7 : Int32))), .val (.int q), .val (.ref rb238), .unset, .unset, .unset, .unset] [(.ref bz195)]))
    refine OGo.st (fun _ k_ => XS.iload X238.here hx rfl (hb hby at_378) rfl k_) ?_
    show OGo p.tables e below _ (T238.setTop (mkF m 380 #[.val (.int p0), .val (.int p1), .val (.int p2), .val (.int p3), .val (.int p4), .val (.int p5), .val (.int d0), .val (.int d1), .val (.int d2), .val (.int c0), .val (.int c1), .val (.int c2), .val (.int ve), .val (.int c0), .val (.int s2), .val (.int s3), .val (.int base), .val (.ref bz2), .val (.ref bz195), .val (.int (p2 &&& (7 : Int32))), .val (.int q), .val (.ref rb238), .unset, .unset, .unset, .unset] [(.int q), (.ref bz195)]))
    obtain ⟨cq248, kqz248, qz248a, qz248b, qz248c⟩ := isOf hZ rfl Ex_240
    obtain ⟨_, _, ⟨T248, Lz248, kz248, nz248⟩, -, X248, ⟨Lc248, hQ248, lz248, yz248, zz248⟩, st248⟩ := X238.virtualBack hx (y := (⟨"com/example/cari/cari/index/Positions", "in", "(I)[I"⟩ : MethodName)) (z := (⟨"com/example/cari/cari/index/Positions", "in", "(I)[I"⟩ : MethodName)) hown (mvT hZ (hw _ (List.mem_of_getElem? (i := 17) rfl))) (mvT hZ (hw _ (List.mem_of_getElem? (i := 18) rfl))) (notFace_of_selects (args := #[]) (mvT hZ (hw _ (List.mem_of_getElem? (i := 20) rfl)))) (mvT hZ (hw _ (List.mem_of_getElem? (i := 20) rfl))) (mvT hZ (hw _ (List.mem_of_getElem? (i := 19) rfl))) (by decide) (backOf (W := 0) (rm14 l Z a0 hw [] bz195 q bz198 bz205 bz221 kz198 kz205 kz221 (fun _ => (.int (0 : Int32))) T238.heap n0 (Nat.le_trans Z0 K_247.1) F_244 Af_241) hZ (hw _ (List.mem_of_getElem? (i := 21) rfl)) (hw _ (List.mem_of_getElem? (i := 4) rfl)) (by decide) (by decide)) qz248a qz248c (g := (mkF m 380 #[.val (.int p0), .val (.int p1), .val (.int p2), .val (.int p3), .val (.int p4), .val (.int p5), .val (.int d0), .val (.int d1), .val (.int d2), .val (.int c0), .val (.int c1), .val (.int c2), .val (.int ve), .val (.int c0), .val (.int s2), .val (.int s3), .val (.int base), .val (.ref bz2), .val (.ref bz195), .val (.int (p2 &&& (7 : Int32))), .val (.int q), .val (.ref rb238), .unset, .unset, .unset, .unset] [(.int q), (.ref bz195)])) rfl (by rw [hml]; rfl) (Steps.refl _) (argsL := [(.int q)]) (rest := []) (lenOf own_pd6 rfl) rfl (by show 2 * 0 + _ ≤ _; exact Nat.le_of_eq rfl) (hb hby at_380) (fun _ _ => ⟨rfl, rfl, (by decide : 6 + 1 ≤ _), (by decide : 13 + 0 ≤ _)⟩)
    dsimp only [Pt.U, Pt.locs, Pt.cells, Pt.slots] at X248 lz248 yz248 zz248 st248 hQ248
    have X248 := own_reb X248 lz248 yz248 zz248
    have X248 : Stand p l e room_1 s m #[(.int p0), (.int p1), (.int p2), (.int p3), (.int p4), (.int p5)] below meth c T248 _ 7 13 := X248
    obtain ⟨rb248, kr248, rfl, Nq248, Kq248, szr248, Ar248⟩ := hQ248
    have N248 := Fr.app N238 Nq248
    have ne_bz2_rb248 : bz2 ≠ rb248 := Nat.ne_of_lt (Nat.lt_of_lt_of_le Af_239.lt szr248)
    have ne_bz195_rb248 : bz195 ≠ rb248 := Nat.ne_of_lt (Nat.lt_of_lt_of_le Ex_240.lt szr248)
    have ne_bz198_rb248 : bz198 ≠ rb248 := Nat.ne_of_lt (Nat.lt_of_lt_of_le Af_241.lt szr248)
    have ne_bz205_rb248 : bz205 ≠ rb248 := Nat.ne_of_lt (Nat.lt_of_lt_of_le Af_242.lt szr248)
    have ne_bz221_rb248 : bz221 ≠ rb248 := Nat.ne_of_lt (Nat.lt_of_lt_of_le Af_243.lt szr248)
    have ne_rb238_rb248 : rb238 ≠ rb248 := Nat.ne_of_lt (Nat.lt_of_lt_of_le Ar238.lt szr248)
    have g_rb248 : n0 ≤ rb248 := Nat.le_trans (Nat.le_trans Z0 K_247.1) szr248
    have sz_rb248 : h0.size ≤ rb248 := Nat.le_trans K_247.1 szr248
    have Af_249 := Af_239.keep Kq248 nin0
    have Ex_250 := Ex_240.keep Kq248
    have Af_251 := Af_241.keep Kq248 nin0
    have Af_252 := Af_242.keep Kq248 nin0
    have Af_253 := Af_243.keep Kq248 nin0
    have F_254 := F_244.keep Kq248 nin0
    have F_255 := F_245.keep Kq248 nin0
    have F_256 := F_246.keep Kq248 nin0
    have Af_257 := Ar238.keep Kq248 nin0
    have K_258 : Keep h0 T248.heap [] := K_247.trans Kq248 all0
    refine OGo.tr st248 ?_
    show OGo p.tables e below _ (T248.setTop (mkF m 383 #[.val (.int p0), .val (.int p1), .val (.int p2), .val (.int p3), .val (.int p4), .val (.int p5), .val (.int d0), .val (.int d1), .val (.int d2), .val (.int c0), .val (.int c1), .val (.int c2), .val (.int ve), .val (.int c0), .val (.int s2), .val (.int s3), .val (.int base), .val (.ref bz2), .val (.ref bz195), .val (.int (p2 &&& (7 : Int32))), .val (.int q), .val (.ref rb238), .unset, .unset, .unset, .unset] [(.ref rb248)]))
    refine OGo.st (fun _ k_ => XS.astore X248.here hx rfl (hb hby at_383) rfl rfl (l' := #[.val (.int p0), .val (.int p1), .val (.int p2), .val (.int p3), .val (.int p4), .val (.int p5), .val (.int d0), .val (.int d1), .val (.int d2), .val (.int c0), .val (.int c1), .val (.int c2), .val (.int ve), .val (.int c0), .val (.int s2), .val (.int s3), .val (.int base), .val (.ref bz2), .val (.ref bz195), .val (.int (p2 &&& (7 : Int32))), .val (.int q), .val (.ref rb238), .val (.ref rb248), .unset, .unset, .unset]) rfl k_) ?_
    show OGo p.tables e below _ (T248.setTop (mkF m 385 #[.val (.int p0), .val (.int p1), .val (.int p2), .val (.int p3), .val (.int p4), .val (.int p5), .val (.int d0), .val (.int d1), .val (.int d2), .val (.int c0), .val (.int c1), .val (.int c2), .val (.int ve), .val (.int c0), .val (.int s2), .val (.int s3), .val (.int base), .val (.ref bz2), .val (.ref bz195), .val (.int (p2 &&& (7 : Int32))), .val (.int q), .val (.ref rb238), .val (.ref rb248), .unset, .unset, .unset] []))
    refine OGo.st (fun _ k_ => XS.iconst X248.here hx rfl (hb hby at_385) k_) ?_
    show OGo p.tables e below _ (T248.setTop (mkF m 386 #[.val (.int p0), .val (.int p1), .val (.int p2), .val (.int p3), .val (.int p4), .val (.int p5), .val (.int d0), .val (.int d1), .val (.int d2), .val (.int c0), .val (.int c1), .val (.int c2), .val (.int ve), .val (.int c0), .val (.int s2), .val (.int s3), .val (.int base), .val (.ref bz2), .val (.ref bz195), .val (.int (p2 &&& (7 : Int32))), .val (.int q), .val (.ref rb238), .val (.ref rb248), .unset, .unset, .unset] [(.int (0 : Int32))]))
    refine OGo.st (fun _ k_ => XS.istore X248.here hx rfl (hb hby at_386) rfl (l' := #[.val (.int p0), .val (.int p1), .val (.int p2), .val (.int p3), .val (.int p4), .val (.int p5), .val (.int d0), .val (.int d1), .val (.int d2), .val (.int c0), .val (.int c1), .val (.int c2), .val (.int ve), .val (.int c0), .val (.int s2), .val (.int s3), .val (.int base), .val (.ref bz2), .val (.ref bz195), .val (.int (p2 &&& (7 : Int32))), .val (.int q), .val (.ref rb238), .val (.ref rb248), .val (.int (0 : Int32)), .unset, .unset]) rfl k_) ?_
    show OGo p.tables e below _ (T248.setTop (mkF m 388 #[.val (.int p0), .val (.int p1), .val (.int p2), .val (.int p3), .val (.int p4), .val (.int p5), .val (.int d0), .val (.int d1), .val (.int d2), .val (.int c0), .val (.int c1), .val (.int c2), .val (.int ve), .val (.int c0), .val (.int s2), .val (.int s3), .val (.int base), .val (.ref bz2), .val (.ref bz195), .val (.int (p2 &&& (7 : Int32))), .val (.int q), .val (.ref rb238), .val (.ref rb248), .val (.int (0 : Int32)), .unset, .unset] []))
    refine OGo.st (fun _ k_ => XS.iconst X248.here hx rfl (hb hby at_388) k_) ?_
    show OGo p.tables e below _ (T248.setTop (mkF m 389 #[.val (.int p0), .val (.int p1), .val (.int p2), .val (.int p3), .val (.int p4), .val (.int p5), .val (.int d0), .val (.int d1), .val (.int d2), .val (.int c0), .val (.int c1), .val (.int c2), .val (.int ve), .val (.int c0), .val (.int s2), .val (.int s3), .val (.int base), .val (.ref bz2), .val (.ref bz195), .val (.int (p2 &&& (7 : Int32))), .val (.int q), .val (.ref rb238), .val (.ref rb248), .val (.int (0 : Int32)), .unset, .unset] [(.int (0 : Int32))]))
    refine OGo.st (fun _ k_ => XS.istore X248.here hx rfl (hb hby at_389) rfl (l' := #[.val (.int p0), .val (.int p1), .val (.int p2), .val (.int p3), .val (.int p4), .val (.int p5), .val (.int d0), .val (.int d1), .val (.int d2), .val (.int c0), .val (.int c1), .val (.int c2), .val (.int ve), .val (.int c0), .val (.int s2), .val (.int s3), .val (.int base), .val (.ref bz2), .val (.ref bz195), .val (.int (p2 &&& (7 : Int32))), .val (.int q), .val (.ref rb238), .val (.ref rb248), .val (.int (0 : Int32)), .val (.int (0 : Int32)), .unset]) rfl k_) ?_
    show OGo p.tables e below _ (T248.setTop (mkF m 391 #[.val (.int p0), .val (.int p1), .val (.int p2), .val (.int p3), .val (.int p4), .val (.int p5), .val (.int d0), .val (.int d1), .val (.int d2), .val (.int c0), .val (.int c1), .val (.int c2), .val (.int ve), .val (.int c0), .val (.int s2), .val (.int s3), .val (.int base), .val (.ref bz2), .val (.ref bz195), .val (.int (p2 &&& (7 : Int32))), .val (.int q), .val (.ref rb238), .val (.ref rb248), .val (.int (0 : Int32)), .val (.int (0 : Int32)), .unset] []))
    refine OGo.st (fun _ k_ => XS.iload X248.here hx rfl (hb hby at_391) rfl k_) ?_
    show OGo p.tables e below _ (T248.setTop (mkF m 393 #[.val (.int p0), .val (.int p1), .val (.int p2), .val (.int p3), .val (.int p4), .val (.int p5), .val (.int d0), .val (.int d1), .val (.int d2), .val (.int c0), .val (.int c1), .val (.int c2), .val (.int ve), .val (.int c0), .val (.int s2), .val (.int s3), .val (.int base), .val (.ref bz2), .val (.ref bz195), .val (.int (p2 &&& (7 : Int32))), .val (.int q), .val (.ref rb238), .val (.ref rb248), .val (.int (0 : Int32)), .val (.int (0 : Int32)), .unset] [(.int ve)]))
    refine OGo.st (fun _ k_ => XS.ifYes X248.here hx rfl (pc0 := 393) (pc' := 446) rfl (hb hby at_393) rfl (XT.i0_ne_t hem) (by decide) (by decide) k_) ?_
    show OGo p.tables e below _ (T248.setTop (mkF m 446 #[.val (.int p0), .val (.int p1), .val (.int p2), .val (.int p3), .val (.int p4), .val (.int p5), .val (.int d0), .val (.int d1), .val (.int d2), .val (.int c0), .val (.int c1), .val (.int c2), .val (.int ve), .val (.int c0), .val (.int s2), .val (.int s3), .val (.int base), .val (.ref bz2), .val (.ref bz195), .val (.int (p2 &&& (7 : Int32))), .val (.int q), .val (.ref rb238), .val (.ref rb248), .val (.int (0 : Int32)), .val (.int (0 : Int32)), .unset] []))
    refine OGo.st (fun _ k_ => XS.iload X248.here hx rfl (hb hby at_446) rfl k_) ?_
    show OGo p.tables e below _ (T248.setTop (mkF m 448 #[.val (.int p0), .val (.int p1), .val (.int p2), .val (.int p3), .val (.int p4), .val (.int p5), .val (.int d0), .val (.int d1), .val (.int d2), .val (.int c0), .val (.int c1), .val (.int c2), .val (.int ve), .val (.int c0), .val (.int s2), .val (.int s3), .val (.int base), .val (.ref bz2), .val (.ref bz195), .val (.int (p2 &&& (7 : Int32))), .val (.int q), .val (.ref rb238), .val (.ref rb248), .val (.int (0 : Int32)), .val (.int (0 : Int32)), .unset] [(.int (0 : Int32))]))
    refine OGo.st (fun _ k_ => XS.iload X248.here hx rfl (hb hby at_448) rfl k_) ?_
    show OGo p.tables e below _ (T248.setTop (mkF m 450 #[.val (.int p0), .val (.int p1), .val (.int p2), .val (.int p3), .val (.int p4), .val (.int p5), .val (.int d0), .val (.int d1), .val (.int d2), .val (.int c0), .val (.int c1), .val (.int c2), .val (.int ve), .val (.int c0), .val (.int s2), .val (.int s3), .val (.int base), .val (.ref bz2), .val (.ref bz195), .val (.int (p2 &&& (7 : Int32))), .val (.int q), .val (.ref rb238), .val (.ref rb248), .val (.int (0 : Int32)), .val (.int (0 : Int32)), .unset] [(.int (0 : Int32)), (.int (0 : Int32))]))
    refine OGo.st (fun _ k_ => XS.isub X248.here hx rfl (hb hby at_450) rfl k_) ?_
    show OGo p.tables e below _ (T248.setTop (mkF m 451 #[.val (.int p0), .val (.int p1), .val (.int p2), .val (.int p3), .val (.int p4), .val (.int p5), .val (.int d0), .val (.int d1), .val (.int d2), .val (.int c0), .val (.int c1), .val (.int c2), .val (.int ve), .val (.int c0), .val (.int s2), .val (.int s3), .val (.int base), .val (.ref bz2), .val (.ref bz195), .val (.int (p2 &&& (7 : Int32))), .val (.int q), .val (.ref rb238), .val (.ref rb248), .val (.int (0 : Int32)), .val (.int (0 : Int32)), .unset] [(.int ((0 : Int32) - (0 : Int32)))]))
    refine OGo.st (fun _ k_ => XS.istore X248.here hx rfl (hb hby at_451) rfl (l' := #[.val (.int p0), .val (.int p1), .val (.int p2), .val (.int p3), .val (.int p4), .val (.int p5), .val (.int d0), .val (.int d1), .val (.int d2), .val (.int c0), .val (.int c1), .val (.int c2), .val (.int ve), .val (.int c0), .val (.int s2), .val (.int s3), .val (.int base), .val (.ref bz2), .val (.ref bz195), .val (.int (p2 &&& (7 : Int32))), .val (.int q), .val (.ref rb238), .val (.ref rb248), .val (.int (0 : Int32)), .val (.int (0 : Int32)), .val (.int ((0 : Int32) - (0 : Int32)))]) rfl k_) ?_
    show OGo p.tables e below _ (T248.setTop (mkF m 453 #[.val (.int p0), .val (.int p1), .val (.int p2), .val (.int p3), .val (.int p4), .val (.int p5), .val (.int d0), .val (.int d1), .val (.int d2), .val (.int c0), .val (.int c1), .val (.int c2), .val (.int ve), .val (.int c0), .val (.int s2), .val (.int s3), .val (.int base), .val (.ref bz2), .val (.ref bz195), .val (.int (p2 &&& (7 : Int32))), .val (.int q), .val (.ref rb238), .val (.ref rb248), .val (.int (0 : Int32)), .val (.int (0 : Int32)), .val (.int ((0 : Int32) - (0 : Int32)))] []))
    refine OGo.st (fun _ k_ => XS.aload X248.here hx rfl (hb hby at_453) rfl rfl k_) ?_
    show OGo p.tables e below _ (T248.setTop (mkF m 455 #[.val (.int p0), .val (.int p1), .val (.int p2), .val (.int p3), .val (.int p4), .val (.int p5), .val (.int d0), .val (.int d1), .val (.int d2), .val (.int c0), .val (.int c1), .val (.int c2), .val (.int ve), .val (.int c0), .val (.int s2), .val (.int s3), .val (.int base), .val (.ref bz2), .val (.ref bz195), .val (.int (p2 &&& (7 : Int32))), .val (.int q), .val (.ref rb238), .val (.ref rb248), .val (.int (0 : Int32)), .val (.int (0 : Int32)), .val (.int ((0 : Int32) - (0 : Int32)))] [(.ref rb238)]))
    refine OGo.st (fun _ k_ => XT.nullNo X248.here hx rfl (hb hby at_455) rfl rfl nofun k_) ?_
    show OGo p.tables e below _ (T248.setTop (mkF m 458 #[.val (.int p0), .val (.int p1), .val (.int p2), .val (.int p3), .val (.int p4), .val (.int p5), .val (.int d0), .val (.int d1), .val (.int d2), .val (.int c0), .val (.int c1), .val (.int c2), .val (.int ve), .val (.int c0), .val (.int s2), .val (.int s3), .val (.int base), .val (.ref bz2), .val (.ref bz195), .val (.int (p2 &&& (7 : Int32))), .val (.int q), .val (.ref rb238), .val (.ref rb248), .val (.int (0 : Int32)), .val (.int (0 : Int32)), .val (.int ((0 : Int32) - (0 : Int32)))] []))
    refine OGo.st (fun _ k_ => XS.aload X248.here hx rfl (hb hby at_458) rfl rfl k_) ?_
    show OGo p.tables e below _ (T248.setTop (mkF m 460 #[.val (.int p0), .val (.int p1), .val (.int p2), .val (.int p3), .val (.int p4), .val (.int p5), .val (.int d0), .val (.int d1), .val (.int d2), .val (.int c0), .val (.int c1), .val (.int c2), .val (.int ve), .val (.int c0), .val (.int s2), .val (.int s3), .val (.int base), .val (.ref bz2), .val (.ref bz195), .val (.int (p2 &&& (7 : Int32))), .val (.int q), .val (.ref rb238), .val (.ref rb248), .val (.int (0 : Int32)), .val (.int (0 : Int32)), .val (.int ((0 : Int32) - (0 : Int32)))] [(.ref rb248)]))
    refine OGo.st (fun _ k_ => XT.nullNo X248.here hx rfl (hb hby at_460) rfl rfl nofun k_) ?_
    show OGo p.tables e below _ (T248.setTop (mkF m 463 #[.val (.int p0), .val (.int p1), .val (.int p2), .val (.int p3), .val (.int p4), .val (.int p5), .val (.int d0), .val (.int d1), .val (.int d2), .val (.int c0), .val (.int c1), .val (.int c2), .val (.int ve), .val (.int c0), .val (.int s2), .val (.int s3), .val (.int base), .val (.ref bz2), .val (.ref bz195), .val (.int (p2 &&& (7 : Int32))), .val (.int q), .val (.ref rb238), .val (.ref rb248), .val (.int (0 : Int32)), .val (.int (0 : Int32)), .val (.int ((0 : Int32) - (0 : Int32)))] []))
    refine OGo.st (fun _ k_ => XS.aload X248.here hx rfl (hb hby at_463) rfl rfl k_) ?_
    show OGo p.tables e below _ (T248.setTop (mkF m 465 #[.val (.int p0), .val (.int p1), .val (.int p2), .val (.int p3), .val (.int p4), .val (.int p5), .val (.int d0), .val (.int d1), .val (.int d2), .val (.int c0), .val (.int c1), .val (.int c2), .val (.int ve), .val (.int c0), .val (.int s2), .val (.int s3), .val (.int base), .val (.ref bz2), .val (.ref bz195), .val (.int (p2 &&& (7 : Int32))), .val (.int q), .val (.ref rb238), .val (.ref rb248), .val (.int (0 : Int32)), .val (.int (0 : Int32)), .val (.int ((0 : Int32) - (0 : Int32)))] [(.ref rb238)]))
    refine OGo.st (fun _ k_ => XS.aload X248.here hx rfl (hb hby at_465) rfl rfl k_) ?_
    show OGo p.tables e below _ (T248.setTop (mkF m 467 #[.val (.int p0), .val (.int p1), .val (.int p2), .val (.int p3), .val (.int p4), .val (.int p5), .val (.int d0), .val (.int d1), .val (.int d2), .val (.int c0), .val (.int c1), .val (.int c2), .val (.int ve), .val (.int c0), .val (.int s2), .val (.int s3), .val (.int base), .val (.ref bz2), .val (.ref bz195), .val (.int (p2 &&& (7 : Int32))), .val (.int q), .val (.ref rb238), .val (.ref rb248), .val (.int (0 : Int32)), .val (.int (0 : Int32)), .val (.int ((0 : Int32) - (0 : Int32)))] [(.ref rb248), (.ref rb238)]))
    refine OGo.st (fun _ k_ => XT.acmpNo X248.here hx rfl (hb hby at_467) rfl rfl rfl (XT.aa_eq_f (fun q => ne_rb238_rb248 (Value.ref.inj q))) k_) ?_
    show OGo p.tables e below _ (T248.setTop (mkF m 470 #[.val (.int p0), .val (.int p1), .val (.int p2), .val (.int p3), .val (.int p4), .val (.int p5), .val (.int d0), .val (.int d1), .val (.int d2), .val (.int c0), .val (.int c1), .val (.int c2), .val (.int ve), .val (.int c0), .val (.int s2), .val (.int s3), .val (.int base), .val (.ref bz2), .val (.ref bz195), .val (.int (p2 &&& (7 : Int32))), .val (.int q), .val (.ref rb238), .val (.ref rb248), .val (.int (0 : Int32)), .val (.int (0 : Int32)), .val (.int ((0 : Int32) - (0 : Int32)))] []))
    refine OGo.st (fun _ k_ => XS.aload X248.here hx rfl (hb hby at_470) rfl rfl k_) ?_
    show OGo p.tables e below _ (T248.setTop (mkF m 472 #[.val (.int p0), .val (.int p1), .val (.int p2), .val (.int p3), .val (.int p4), .val (.int p5), .val (.int d0), .val (.int d1), .val (.int d2), .val (.int c0), .val (.int c1), .val (.int c2), .val (.int ve), .val (.int c0), .val (.int s2), .val (.int s3), .val (.int base), .val (.ref bz2), .val (.ref bz195), .val (.int (p2 &&& (7 : Int32))), .val (.int q), .val (.ref rb238), .val (.ref rb248), .val (.int (0 : Int32)), .val (.int (0 : Int32)), .val (.int ((0 : Int32) - (0 : Int32)))] [(.ref rb238)]))
    refine OGo.st (fun _ k_ => XS.aload X248.here hx rfl (hb hby at_472) rfl rfl k_) ?_
    show OGo p.tables e below _ (T248.setTop (mkF m 474 #[.val (.int p0), .val (.int p1), .val (.int p2), .val (.int p3), .val (.int p4), .val (.int p5), .val (.int d0), .val (.int d1), .val (.int d2), .val (.int c0), .val (.int c1), .val (.int c2), .val (.int ve), .val (.int c0), .val (.int s2), .val (.int s3), .val (.int base), .val (.ref bz2), .val (.ref bz195), .val (.int (p2 &&& (7 : Int32))), .val (.int q), .val (.ref rb238), .val (.ref rb248), .val (.int (0 : Int32)), .val (.int (0 : Int32)), .val (.int ((0 : Int32) - (0 : Int32)))] [(.ref bz2), (.ref rb238)]))
    refine OGo.st (fun _ k_ => XT.acmpYes X248.here hx rfl (pc0 := 474) (pc' := 479) rfl (hb hby at_474) rfl rfl rfl (XT.aa_ne_t (fun q => (Ne.symm ne_bz2_rb238) (Value.ref.inj q))) (by decide) (by decide) k_) ?_
    show OGo p.tables e below _ (T248.setTop (mkF m 479 #[.val (.int p0), .val (.int p1), .val (.int p2), .val (.int p3), .val (.int p4), .val (.int p5), .val (.int d0), .val (.int d1), .val (.int d2), .val (.int c0), .val (.int c1), .val (.int c2), .val (.int ve), .val (.int c0), .val (.int s2), .val (.int s3), .val (.int base), .val (.ref bz2), .val (.ref bz195), .val (.int (p2 &&& (7 : Int32))), .val (.int q), .val (.ref rb238), .val (.ref rb248), .val (.int (0 : Int32)), .val (.int (0 : Int32)), .val (.int ((0 : Int32) - (0 : Int32)))] []))
    refine OGo.st (fun _ k_ => XS.aload X248.here hx rfl (hb hby at_479) rfl rfl k_) ?_
    show OGo p.tables e below _ (T248.setTop (mkF m 481 #[.val (.int p0), .val (.int p1), .val (.int p2), .val (.int p3), .val (.int p4), .val (.int p5), .val (.int d0), .val (.int d1), .val (.int d2), .val (.int c0), .val (.int c1), .val (.int c2), .val (.int ve), .val (.int c0), .val (.int s2), .val (.int s3), .val (.int base), .val (.ref bz2), .val (.ref bz195), .val (.int (p2 &&& (7 : Int32))), .val (.int q), .val (.ref rb238), .val (.ref rb248), .val (.int (0 : Int32)), .val (.int (0 : Int32)), .val (.int ((0 : Int32) - (0 : Int32)))] [(.ref rb238)]))
    have qz259 := own_alen X248 hx hZ rfl Af_257 (g := (mkF m 481 #[.val (.int p0), .val (.int p1), .val (.int p2), .val (.int p3), .val (.int p4), .val (.int p5), .val (.int d0), .val (.int d1), .val (.int d2), .val (.int c0), .val (.int c1), .val (.int c2), .val (.int ve), .val (.int c0), .val (.int s2), .val (.int s3), .val (.int base), .val (.ref bz2), .val (.ref bz195), .val (.int (p2 &&& (7 : Int32))), .val (.int q), .val (.ref rb238), .val (.ref rb248), .val (.int (0 : Int32)), .val (.int (0 : Int32)), .val (.int ((0 : Int32) - (0 : Int32)))] [(.ref rb238)])) rfl rfl (hb hby at_481)
    refine OGo.st qz259 ?_
    show OGo p.tables e below _ (T248.setTop (mkF m 482 #[.val (.int p0), .val (.int p1), .val (.int p2), .val (.int p3), .val (.int p4), .val (.int p5), .val (.int d0), .val (.int d1), .val (.int d2), .val (.int c0), .val (.int c1), .val (.int c2), .val (.int ve), .val (.int c0), .val (.int s2), .val (.int s3), .val (.int base), .val (.ref bz2), .val (.ref bz195), .val (.int (p2 &&& (7 : Int32))), .val (.int q), .val (.ref rb238), .val (.ref rb248), .val (.int (0 : Int32)), .val (.int (0 : Int32)), .val (.int ((0 : Int32) - (0 : Int32)))] [(.int (0 : Int32))]))
    refine OGo.st (fun _ k_ => XS.iload X248.here hx rfl (hb hby at_482) rfl k_) ?_
    show OGo p.tables e below _ (T248.setTop (mkF m 484 #[.val (.int p0), .val (.int p1), .val (.int p2), .val (.int p3), .val (.int p4), .val (.int p5), .val (.int d0), .val (.int d1), .val (.int d2), .val (.int c0), .val (.int c1), .val (.int c2), .val (.int ve), .val (.int c0), .val (.int s2), .val (.int s3), .val (.int base), .val (.ref bz2), .val (.ref bz195), .val (.int (p2 &&& (7 : Int32))), .val (.int q), .val (.ref rb238), .val (.ref rb248), .val (.int (0 : Int32)), .val (.int (0 : Int32)), .val (.int ((0 : Int32) - (0 : Int32)))] [(.int ((0 : Int32) - (0 : Int32))), (.int (0 : Int32))]))
    refine OGo.st (fun _ k_ => XS.icmpNo X248.here hx rfl (hb hby at_484) rfl (XT.ii_ne_f (by decide)) k_) ?_
    show OGo p.tables e below _ (T248.setTop (mkF m 487 #[.val (.int p0), .val (.int p1), .val (.int p2), .val (.int p3), .val (.int p4), .val (.int p5), .val (.int d0), .val (.int d1), .val (.int d2), .val (.int c0), .val (.int c1), .val (.int c2), .val (.int ve), .val (.int c0), .val (.int s2), .val (.int s3), .val (.int base), .val (.ref bz2), .val (.ref bz195), .val (.int (p2 &&& (7 : Int32))), .val (.int q), .val (.ref rb238), .val (.ref rb248), .val (.int (0 : Int32)), .val (.int (0 : Int32)), .val (.int ((0 : Int32) - (0 : Int32)))] []))
    refine OGo.st (fun _ k_ => XS.aload X248.here hx rfl (hb hby at_487) rfl rfl k_) ?_
    show OGo p.tables e below _ (T248.setTop (mkF m 489 #[.val (.int p0), .val (.int p1), .val (.int p2), .val (.int p3), .val (.int p4), .val (.int p5), .val (.int d0), .val (.int d1), .val (.int d2), .val (.int c0), .val (.int c1), .val (.int c2), .val (.int ve), .val (.int c0), .val (.int s2), .val (.int s3), .val (.int base), .val (.ref bz2), .val (.ref bz195), .val (.int (p2 &&& (7 : Int32))), .val (.int q), .val (.ref rb238), .val (.ref rb248), .val (.int (0 : Int32)), .val (.int (0 : Int32)), .val (.int ((0 : Int32) - (0 : Int32)))] [(.ref rb248)]))
    have qz260 := own_alen X248 hx hZ rfl Ar248 (g := (mkF m 489 #[.val (.int p0), .val (.int p1), .val (.int p2), .val (.int p3), .val (.int p4), .val (.int p5), .val (.int d0), .val (.int d1), .val (.int d2), .val (.int c0), .val (.int c1), .val (.int c2), .val (.int ve), .val (.int c0), .val (.int s2), .val (.int s3), .val (.int base), .val (.ref bz2), .val (.ref bz195), .val (.int (p2 &&& (7 : Int32))), .val (.int q), .val (.ref rb238), .val (.ref rb248), .val (.int (0 : Int32)), .val (.int (0 : Int32)), .val (.int ((0 : Int32) - (0 : Int32)))] [(.ref rb248)])) rfl rfl (hb hby at_489)
    refine OGo.st qz260 ?_
    show OGo p.tables e below _ (T248.setTop (mkF m 490 #[.val (.int p0), .val (.int p1), .val (.int p2), .val (.int p3), .val (.int p4), .val (.int p5), .val (.int d0), .val (.int d1), .val (.int d2), .val (.int c0), .val (.int c1), .val (.int c2), .val (.int ve), .val (.int c0), .val (.int s2), .val (.int s3), .val (.int base), .val (.ref bz2), .val (.ref bz195), .val (.int (p2 &&& (7 : Int32))), .val (.int q), .val (.ref rb238), .val (.ref rb248), .val (.int (0 : Int32)), .val (.int (0 : Int32)), .val (.int ((0 : Int32) - (0 : Int32)))] [(.int (0 : Int32))]))
    refine OGo.st (fun _ k_ => XS.iload X248.here hx rfl (hb hby at_490) rfl k_) ?_
    show OGo p.tables e below _ (T248.setTop (mkF m 492 #[.val (.int p0), .val (.int p1), .val (.int p2), .val (.int p3), .val (.int p4), .val (.int p5), .val (.int d0), .val (.int d1), .val (.int d2), .val (.int c0), .val (.int c1), .val (.int c2), .val (.int ve), .val (.int c0), .val (.int s2), .val (.int s3), .val (.int base), .val (.ref bz2), .val (.ref bz195), .val (.int (p2 &&& (7 : Int32))), .val (.int q), .val (.ref rb238), .val (.ref rb248), .val (.int (0 : Int32)), .val (.int (0 : Int32)), .val (.int ((0 : Int32) - (0 : Int32)))] [(.int ((0 : Int32) - (0 : Int32))), (.int (0 : Int32))]))
    refine OGo.st (fun _ k_ => XS.icmpYes X248.here hx rfl (pc0 := 492) (pc' := 497) rfl (hb hby at_492) rfl (XT.ii_eq_t (by decide)) (by decide) (by decide) k_) ?_
    show OGo p.tables e below _ (T248.setTop (mkF m 497 #[.val (.int p0), .val (.int p1), .val (.int p2), .val (.int p3), .val (.int p4), .val (.int p5), .val (.int d0), .val (.int d1), .val (.int d2), .val (.int c0), .val (.int c1), .val (.int c2), .val (.int ve), .val (.int c0), .val (.int s2), .val (.int s3), .val (.int base), .val (.ref bz2), .val (.ref bz195), .val (.int (p2 &&& (7 : Int32))), .val (.int q), .val (.ref rb238), .val (.ref rb248), .val (.int (0 : Int32)), .val (.int (0 : Int32)), .val (.int ((0 : Int32) - (0 : Int32)))] []))
    refine OGo.st (fun _ k_ => XS.aload X248.here hx rfl (hb hby at_497) rfl rfl k_) ?_
    show OGo p.tables e below _ (T248.setTop (mkF m 499 #[.val (.int p0), .val (.int p1), .val (.int p2), .val (.int p3), .val (.int p4), .val (.int p5), .val (.int d0), .val (.int d1), .val (.int d2), .val (.int c0), .val (.int c1), .val (.int c2), .val (.int ve), .val (.int c0), .val (.int s2), .val (.int s3), .val (.int base), .val (.ref bz2), .val (.ref bz195), .val (.int (p2 &&& (7 : Int32))), .val (.int q), .val (.ref rb238), .val (.ref rb248), .val (.int (0 : Int32)), .val (.int (0 : Int32)), .val (.int ((0 : Int32) - (0 : Int32)))] [(.ref rb238)]))
    refine OGo.st (fun _ k_ => XS.aload X248.here hx rfl (hb hby at_499) rfl rfl k_) ?_
    show OGo p.tables e below _ (T248.setTop (mkF m 501 #[.val (.int p0), .val (.int p1), .val (.int p2), .val (.int p3), .val (.int p4), .val (.int p5), .val (.int d0), .val (.int d1), .val (.int d2), .val (.int c0), .val (.int c1), .val (.int c2), .val (.int ve), .val (.int c0), .val (.int s2), .val (.int s3), .val (.int base), .val (.ref bz2), .val (.ref bz195), .val (.int (p2 &&& (7 : Int32))), .val (.int q), .val (.ref rb238), .val (.ref rb248), .val (.int (0 : Int32)), .val (.int (0 : Int32)), .val (.int ((0 : Int32) - (0 : Int32)))] [(.ref bz2), (.ref rb238)]))
    refine OGo.st (fun _ k_ => XS.iload X248.here hx rfl (hb hby at_501) rfl k_) ?_
    show OGo p.tables e below _ (T248.setTop (mkF m 503 #[.val (.int p0), .val (.int p1), .val (.int p2), .val (.int p3), .val (.int p4), .val (.int p5), .val (.int d0), .val (.int d1), .val (.int d2), .val (.int c0), .val (.int c1), .val (.int c2), .val (.int ve), .val (.int c0), .val (.int s2), .val (.int s3), .val (.int base), .val (.ref bz2), .val (.ref bz195), .val (.int (p2 &&& (7 : Int32))), .val (.int q), .val (.ref rb238), .val (.ref rb248), .val (.int (0 : Int32)), .val (.int (0 : Int32)), .val (.int ((0 : Int32) - (0 : Int32)))] [(.int (0 : Int32)), (.ref bz2), (.ref rb238)]))
    refine OGo.st (fun _ k_ => XS.iload X248.here hx rfl (hb hby at_503) rfl k_) ?_
    show OGo p.tables e below _ (T248.setTop (mkF m 505 #[.val (.int p0), .val (.int p1), .val (.int p2), .val (.int p3), .val (.int p4), .val (.int p5), .val (.int d0), .val (.int d1), .val (.int d2), .val (.int c0), .val (.int c1), .val (.int c2), .val (.int ve), .val (.int c0), .val (.int s2), .val (.int s3), .val (.int base), .val (.ref bz2), .val (.ref bz195), .val (.int (p2 &&& (7 : Int32))), .val (.int q), .val (.ref rb238), .val (.ref rb248), .val (.int (0 : Int32)), .val (.int (0 : Int32)), .val (.int ((0 : Int32) - (0 : Int32)))] [(.int ((0 : Int32) - (0 : Int32))), (.int (0 : Int32)), (.ref bz2), (.ref rb238)]))
    obtain ⟨_, _, ⟨T261, Lz261, kz261, nz261⟩, -, X261, ⟨Lc261, hQ261, lz261, yz261, zz261⟩, st261⟩ := Jvm.LawKit.callS X248 hx (y := (⟨"com/example/cari/cari/index/PositionsInPinLaw", "same", "([I[III)Z"⟩ : MethodName)) hown (mvT hZ (hw _ (List.mem_of_getElem? (i := 46) rfl))) (mvT hZ (hw _ (List.mem_of_getElem? (i := 47) rfl))) (mvT hZ (hw _ (List.mem_of_getElem? (i := 48) rfl))) (mvT hZ (hw _ (List.mem_of_getElem? (i := 49) rfl))) (by decide) (backOf (W := 0) (rm15 l Z a0 hw [] rb238 bz2 (0 : Int32) ((0 : Int32) - (0 : Int32)) kr238 kz2 (own_9 base) (fun _ => .int 0) T248.heap n0 (Nat.le_trans Z0 K_258.1) Af_257 Af_249 (fun i hi => absurd hi (own_no0 i)) own_z9) hZ (hw _ (List.mem_of_getElem? (i := 49) rfl)) (hw _ (List.mem_of_getElem? (i := 48) rfl)) (by decide) (by decide)) (g := (mkF m 505 #[.val (.int p0), .val (.int p1), .val (.int p2), .val (.int p3), .val (.int p4), .val (.int p5), .val (.int d0), .val (.int d1), .val (.int d2), .val (.int c0), .val (.int c1), .val (.int c2), .val (.int ve), .val (.int c0), .val (.int s2), .val (.int s3), .val (.int base), .val (.ref bz2), .val (.ref bz195), .val (.int (p2 &&& (7 : Int32))), .val (.int q), .val (.ref rb238), .val (.ref rb248), .val (.int (0 : Int32)), .val (.int (0 : Int32)), .val (.int ((0 : Int32) - (0 : Int32)))] [(.int ((0 : Int32) - (0 : Int32))), (.int (0 : Int32)), (.ref bz2), (.ref rb238)])) rfl (by rw [hml]; rfl) (argsL := [(.ref rb238), (.ref bz2), (.int (0 : Int32)), (.int ((0 : Int32) - (0 : Int32)))]) (rest := []) (lenOf own_pd7 rfl) rfl (by show 2 * 0 + _ ≤ _; exact Nat.le_of_eq rfl) (hb hby at_505) (fun _ _ => ⟨rfl, rfl, (by decide : 7 + 0 ≤ _), (by decide : 13 + 0 ≤ _)⟩)
    dsimp only [Pt.U, Pt.locs, Pt.cells, Pt.slots] at X261 lz261 yz261 zz261 st261 hQ261
    have X261 := own_reb X261 lz261 yz261 zz261
    have X261 : Stand p l e room_1 s m #[(.int p0), (.int p1), (.int p2), (.int p3), (.int p4), (.int p5)] below meth c T261 _ 7 13 := X261
    obtain ⟨hvq261, Nq261, ez261⟩ := hQ261
    rw [hvq261] at st261
    have N261 := Fr.app N248 Nq261
    refine OGo.st st261 ?_
    show OGo p.tables e below _ (T261.setTop (mkF m 508 #[.val (.int p0), .val (.int p1), .val (.int p2), .val (.int p3), .val (.int p4), .val (.int p5), .val (.int d0), .val (.int d1), .val (.int d2), .val (.int c0), .val (.int c1), .val (.int c2), .val (.int ve), .val (.int c0), .val (.int s2), .val (.int s3), .val (.int base), .val (.ref bz2), .val (.ref bz195), .val (.int (p2 &&& (7 : Int32))), .val (.int q), .val (.ref rb238), .val (.ref rb248), .val (.int (0 : Int32)), .val (.int (0 : Int32)), .val (.int ((0 : Int32) - (0 : Int32)))] [(.int (1 : Int32))]))
    refine OGo.st (fun _ k_ => XS.ifNo X261.here hx rfl (hb hby at_508) rfl (XT.i0_eq_f (by decide)) k_) ?_
    show OGo p.tables e below _ (T261.setTop (mkF m 511 #[.val (.int p0), .val (.int p1), .val (.int p2), .val (.int p3), .val (.int p4), .val (.int p5), .val (.int d0), .val (.int d1), .val (.int d2), .val (.int c0), .val (.int c1), .val (.int c2), .val (.int ve), .val (.int c0), .val (.int s2), .val (.int s3), .val (.int base), .val (.ref bz2), .val (.ref bz195), .val (.int (p2 &&& (7 : Int32))), .val (.int q), .val (.ref rb238), .val (.ref rb248), .val (.int (0 : Int32)), .val (.int (0 : Int32)), .val (.int ((0 : Int32) - (0 : Int32)))] []))
    refine OGo.st (fun _ k_ => XS.aload X261.here hx rfl (hb hby at_511) rfl rfl k_) ?_
    show OGo p.tables e below _ (T261.setTop (mkF m 513 #[.val (.int p0), .val (.int p1), .val (.int p2), .val (.int p3), .val (.int p4), .val (.int p5), .val (.int d0), .val (.int d1), .val (.int d2), .val (.int c0), .val (.int c1), .val (.int c2), .val (.int ve), .val (.int c0), .val (.int s2), .val (.int s3), .val (.int base), .val (.ref bz2), .val (.ref bz195), .val (.int (p2 &&& (7 : Int32))), .val (.int q), .val (.ref rb238), .val (.ref rb248), .val (.int (0 : Int32)), .val (.int (0 : Int32)), .val (.int ((0 : Int32) - (0 : Int32)))] [(.ref rb248)]))
    refine OGo.st (fun _ k_ => XS.aload X261.here hx rfl (hb hby at_513) rfl rfl k_) ?_
    show OGo p.tables e below _ (T261.setTop (mkF m 515 #[.val (.int p0), .val (.int p1), .val (.int p2), .val (.int p3), .val (.int p4), .val (.int p5), .val (.int d0), .val (.int d1), .val (.int d2), .val (.int c0), .val (.int c1), .val (.int c2), .val (.int ve), .val (.int c0), .val (.int s2), .val (.int s3), .val (.int base), .val (.ref bz2), .val (.ref bz195), .val (.int (p2 &&& (7 : Int32))), .val (.int q), .val (.ref rb238), .val (.ref rb248), .val (.int (0 : Int32)), .val (.int (0 : Int32)), .val (.int ((0 : Int32) - (0 : Int32)))] [(.ref bz2), (.ref rb248)]))
    refine OGo.st (fun _ k_ => XS.iload X261.here hx rfl (hb hby at_515) rfl k_) ?_
    show OGo p.tables e below _ (T261.setTop (mkF m 517 #[.val (.int p0), .val (.int p1), .val (.int p2), .val (.int p3), .val (.int p4), .val (.int p5), .val (.int d0), .val (.int d1), .val (.int d2), .val (.int c0), .val (.int c1), .val (.int c2), .val (.int ve), .val (.int c0), .val (.int s2), .val (.int s3), .val (.int base), .val (.ref bz2), .val (.ref bz195), .val (.int (p2 &&& (7 : Int32))), .val (.int q), .val (.ref rb238), .val (.ref rb248), .val (.int (0 : Int32)), .val (.int (0 : Int32)), .val (.int ((0 : Int32) - (0 : Int32)))] [(.int (0 : Int32)), (.ref bz2), (.ref rb248)]))
    refine OGo.st (fun _ k_ => XS.iload X261.here hx rfl (hb hby at_517) rfl k_) ?_
    show OGo p.tables e below _ (T261.setTop (mkF m 519 #[.val (.int p0), .val (.int p1), .val (.int p2), .val (.int p3), .val (.int p4), .val (.int p5), .val (.int d0), .val (.int d1), .val (.int d2), .val (.int c0), .val (.int c1), .val (.int c2), .val (.int ve), .val (.int c0), .val (.int s2), .val (.int s3), .val (.int base), .val (.ref bz2), .val (.ref bz195), .val (.int (p2 &&& (7 : Int32))), .val (.int q), .val (.ref rb238), .val (.ref rb248), .val (.int (0 : Int32)), .val (.int (0 : Int32)), .val (.int ((0 : Int32) - (0 : Int32)))] [(.int ((0 : Int32) - (0 : Int32))), (.int (0 : Int32)), (.ref bz2), (.ref rb248)]))
    obtain ⟨_, _, ⟨T262, Lz262, kz262, nz262⟩, -, X262, ⟨Lc262, hQ262, lz262, yz262, zz262⟩, st262⟩ := Jvm.LawKit.callS X261 hx (y := (⟨"com/example/cari/cari/index/PositionsInPinLaw", "same", "([I[III)Z"⟩ : MethodName)) hown (mvT hZ (hw _ (List.mem_of_getElem? (i := 46) rfl))) (mvT hZ (hw _ (List.mem_of_getElem? (i := 47) rfl))) (mvT hZ (hw _ (List.mem_of_getElem? (i := 48) rfl))) (mvT hZ (hw _ (List.mem_of_getElem? (i := 49) rfl))) (by decide) (backOf (W := 0) (rm15 l Z a0 hw [] rb248 bz2 (0 : Int32) ((0 : Int32) - (0 : Int32)) kr248 kz2 (own_9 base) (fun _ => .int 0) T248.heap n0 (Nat.le_trans Z0 K_258.1) Ar248 Af_249 (fun i hi => absurd hi (own_no0 i)) own_z9) hZ (hw _ (List.mem_of_getElem? (i := 49) rfl)) (hw _ (List.mem_of_getElem? (i := 48) rfl)) (by decide) (by decide)) (g := (mkF m 519 #[.val (.int p0), .val (.int p1), .val (.int p2), .val (.int p3), .val (.int p4), .val (.int p5), .val (.int d0), .val (.int d1), .val (.int d2), .val (.int c0), .val (.int c1), .val (.int c2), .val (.int ve), .val (.int c0), .val (.int s2), .val (.int s3), .val (.int base), .val (.ref bz2), .val (.ref bz195), .val (.int (p2 &&& (7 : Int32))), .val (.int q), .val (.ref rb238), .val (.ref rb248), .val (.int (0 : Int32)), .val (.int (0 : Int32)), .val (.int ((0 : Int32) - (0 : Int32)))] [(.int ((0 : Int32) - (0 : Int32))), (.int (0 : Int32)), (.ref bz2), (.ref rb248)])) rfl (by rw [hml]; rfl) (argsL := [(.ref rb248), (.ref bz2), (.int (0 : Int32)), (.int ((0 : Int32) - (0 : Int32)))]) (rest := []) (lenOf own_pd7 rfl) rfl (by show 2 * 0 + _ ≤ _; exact Nat.le_of_eq rfl) (hb hby at_519) (fun _ _ => ⟨rfl, ez261, (by decide : 7 + 0 ≤ _), (by decide : 13 + 0 ≤ _)⟩)
    dsimp only [Pt.U, Pt.locs, Pt.cells, Pt.slots] at X262 lz262 yz262 zz262 st262 hQ262
    have X262 := own_reb X262 lz262 yz262 zz262
    have X262 : Stand p l e room_1 s m #[(.int p0), (.int p1), (.int p2), (.int p3), (.int p4), (.int p5)] below meth c T262 _ 7 13 := X262
    obtain ⟨hvq262, Nq262, ez262⟩ := hQ262
    rw [hvq262] at st262
    have N262 := Fr.app N261 Nq262
    refine OGo.st st262 ?_
    show OGo p.tables e below _ (T262.setTop (mkF m 522 #[.val (.int p0), .val (.int p1), .val (.int p2), .val (.int p3), .val (.int p4), .val (.int p5), .val (.int d0), .val (.int d1), .val (.int d2), .val (.int c0), .val (.int c1), .val (.int c2), .val (.int ve), .val (.int c0), .val (.int s2), .val (.int s3), .val (.int base), .val (.ref bz2), .val (.ref bz195), .val (.int (p2 &&& (7 : Int32))), .val (.int q), .val (.ref rb238), .val (.ref rb248), .val (.int (0 : Int32)), .val (.int (0 : Int32)), .val (.int ((0 : Int32) - (0 : Int32)))] [(.int (1 : Int32))]))
    refine OGo.st (fun _ k_ => XS.ifNo X262.here hx rfl (hb hby at_522) rfl (XT.i0_eq_f (by decide)) k_) ?_
    show OGo p.tables e below _ (T262.setTop (mkF m 525 #[.val (.int p0), .val (.int p1), .val (.int p2), .val (.int p3), .val (.int p4), .val (.int p5), .val (.int d0), .val (.int d1), .val (.int d2), .val (.int c0), .val (.int c1), .val (.int c2), .val (.int ve), .val (.int c0), .val (.int s2), .val (.int s3), .val (.int base), .val (.ref bz2), .val (.ref bz195), .val (.int (p2 &&& (7 : Int32))), .val (.int q), .val (.ref rb238), .val (.ref rb248), .val (.int (0 : Int32)), .val (.int (0 : Int32)), .val (.int ((0 : Int32) - (0 : Int32)))] []))
    refine OGo.st (fun _ k_ => XS.iconst X262.here hx rfl (hb hby at_525) k_) ?_
    show OGo p.tables e below _ (T262.setTop (mkF m 526 #[.val (.int p0), .val (.int p1), .val (.int p2), .val (.int p3), .val (.int p4), .val (.int p5), .val (.int d0), .val (.int d1), .val (.int d2), .val (.int c0), .val (.int c1), .val (.int c2), .val (.int ve), .val (.int c0), .val (.int s2), .val (.int s3), .val (.int base), .val (.ref bz2), .val (.ref bz195), .val (.int (p2 &&& (7 : Int32))), .val (.int q), .val (.ref rb238), .val (.ref rb248), .val (.int (0 : Int32)), .val (.int (0 : Int32)), .val (.int ((0 : Int32) - (0 : Int32)))] [(.int (1 : Int32))]))
    refine OGo.st (fun _ k_ => XS.goto X262.here hx rfl (pc0 := 526) (pc' := 530) rfl (hb hby at_526) (by decide) (by decide) k_) ?_
    show OGo p.tables e below _ (T262.setTop (mkF m 530 #[.val (.int p0), .val (.int p1), .val (.int p2), .val (.int p3), .val (.int p4), .val (.int p5), .val (.int d0), .val (.int d1), .val (.int d2), .val (.int c0), .val (.int c1), .val (.int c2), .val (.int ve), .val (.int c0), .val (.int s2), .val (.int s3), .val (.int base), .val (.ref bz2), .val (.ref bz195), .val (.int (p2 &&& (7 : Int32))), .val (.int q), .val (.ref rb238), .val (.ref rb248), .val (.int (0 : Int32)), .val (.int (0 : Int32)), .val (.int ((0 : Int32) - (0 : Int32)))] [(.int (1 : Int32))]))
    refine OGo.fin X262 (v := some (.int (1 : Int32))) (fun h => by rw [Bd.returns] at h; cases h) hlk (fun fs hr => X262.ireturnOut hx Bd.returns rfl (by simp) (hb hby at_530) hr) ?_ (by decide) (by decide)
    show own_Q_rm0 Z p0 p1 p2 p3 p4 p5 h0 n0 _ T262.heap _
    rw [ez262]
    exact ⟨rfl, N262⟩
set_option maxRecDepth 65536 in
set_option maxHeartbeats 40000000 in
theorem comes_1 {Post : Tables → Env → Array Value → State → Outcome → State → Prop} (hpost : ∀ tb e args s v u, (limb_1_1.after args s (.returned v) u = true ∧ limb_1_2.after args s (.returned v) u = true ∧ True) → FrameEnd s (.returned v) u (Jvm.fieldLocs frame_1_writes args s ++ Jvm.arrayLocs frame_1_arrays args s ++ Jvm.staticLocs frame_1_statics s) 24 128 → Post tb e args s (.returned v) u) :
    ArmFor flags0 classFile x code maxLocals ret World_1 tables_1 room_1 Calls_1 rest_1 Pre_1 Post := by
  intro l hfl _ _ p e ha hc hk s m args below hf hA hF happ hP
  obtain ⟨hcalls, hrest, hpre⟩ := hP
  obtain ⟨-, -, -, hnamed, -, -, -, hat⟩ := (Spec.applies_iff hf).mp happ
  obtain ⟨hg, hn⟩ := and_e (Cond.before_iff.mp (show (Jvm.Cond.and given_1 narrow_1).before args s = true from hpre))
  obtain ⟨g0, r0⟩ := and_e hg
  obtain ⟨a0, r1⟩ := and_e r0
  obtain ⟨a1, r2⟩ := and_e r1
  obtain ⟨a2, r3⟩ := and_e r2
  obtain ⟨a3, r4⟩ := and_e r3
  obtain ⟨a4, r5⟩ := and_e r4
  obtain ⟨w0, w1, w2, w3, w4, w5, rfl⟩ : ∃ w0 w1 w2 w3 w4 w5 : Value, args = #[w0, w1, w2, w3, w4, w5] := by
    have hs : args.size = 6 := by simpa [Cond.value, given_1] using g0
    obtain ⟨L⟩ := args
    match L, hs with
    | [w0, w1, w2, w3, w4, w5], _ => exact ⟨w0, w1, w2, w3, w4, w5, rfl⟩
  have hw := fun d (hd : d ∈ tables_1) => atoms_spec (ws := Jvm.Cond.code x code maxLocals ret :: tables_1) hat d (List.mem_cons_of_mem _ hd)
  have hfit : Fit s := fun {y c} hc i hi => by
    obtain ⟨ha, rfl⟩ := Array.getElem?_eq_some_iff.mp hc
    have q := List.all_eq_true.mp ((Array.all_eq_true_iff_forall_mem.mp hF) _ (Array.getElem_mem ha)) i (List.mem_range.mpr hi)
    simpa [Array.getElem?_eq_getElem hi] using q
  obtain ⟨i0, ei0⟩ := is_v a0
  obtain rfl : w0 = (.int i0) := Option.some.inj ei0
  obtain ⟨i1, ei1⟩ := is_v a1
  obtain rfl : w1 = (.int i1) := Option.some.inj ei1
  obtain ⟨i2, ei2⟩ := is_v a2
  obtain rfl : w2 = (.int i2) := Option.some.inj ei2
  obtain ⟨i3, ei3⟩ := is_v a3
  obtain rfl : w3 = (.int i3) := Option.some.inj ei3
  obtain ⟨i4, ei4⟩ := is_v a4
  obtain rfl : w4 = (.int i4) := Option.some.inj ei4
  obtain ⟨i5, ei5⟩ := is_v r5
  obtain rfl : w5 = (.int i5) := Option.some.inj ei5
  obtain ⟨n, o, h1, h2, h3, _, L, rfl, ⟨rfl, N⟩, hq⟩ := rm0 l s _ hw tables_1 i0 i1 i2 i3 i4 i5  s.heap s.heap.size (Nat.le_refl _)  p e ha hc hk s m _ below hf ((Spec.applies_iff_loose hf).mp happ).1 ⟨rfl, State.Warmed39.refl s, rfl⟩ trivial
  refine ⟨n, _, h1, h2, h3, hpost _ _ _ _ _ _ ⟨Cond.after_iff.mpr rfl, Cond.after_iff.mpr (eq_i res_at (Term.int_eval (1)) rfl), trivial⟩ ⟨hq.1, hq.2.1, (hq.2.2.sift fun y hy => Or.inr (N y hy)).mono (by decide) (by decide)⟩⟩
theorem main_1_1 : Claimed_1_1 := comes_1 fun _ _ _ _ _ _ h hF => ⟨h.1, hF⟩
theorem main_1_2 : Claimed_1_2 := comes_1 fun _ _ _ _ _ _ h hF => ⟨h.2.1, hF⟩
end Jvm.Pilot.@@N@@
namespace Jvm.Pilot.@@N@@
open Jvm Jvm.ClassFile Sem Op Lib Jvm.Free Jvm.Stand Jvm.Pilot.@@N@@.Jvm.D
/-! MADE BY PROGRAM (witnessworld.py) out of the Statement's table words and the real class files: 12 classes; the members and pool entries that the words name. The judged class is class 1, her method 1. -/
namespace start1
open Jvm.ClassFile
def u (s : String) : CpInfo := .utf8 (stringToUtf16 s)
/-- a pool by its gaps: so many unusable entries, then the entry; so many at the end -/
def gap : Nat → List CpInfo → List CpInfo
  | 0, r => r
  | n + 1, r => .unusable :: gap n r
def poolList (es : List (Nat × CpInfo)) (last : Nat) : List CpInfo := es.foldr (fun e r => gap e.1 (e.2 :: r)) (gap last [])
def pool (es : List (Nat × CpInfo)) (last : Nat) : Array CpInfo := ⟨poolList es last⟩
def fileOf (pool : Array CpInfo) (this : Nat) (attrs : Array Attribute := #[]) (ms : Array MethodInfo := #[]) (fl : Nat := 33) (sup : Nat := 0) (ifs : Array Nat := #[]) (fds : Array FieldInfo := #[]) : ClassFile where
  minorVersion := 0
  majorVersion := 65
  constantPool := pool
  accessFlags := fl
  thisClass := this
  superClass := sup
  interfaces := ifs
  fields := fds
  methods := ms
  attributes := attrs
def plain (name : String) (sup : Option ClassId) : Class where
  name := name
  kind := .ordinary
  loader := none
  accessFlags := 33
  super := sup
  interfaces := #[]
  cf := none
  fields := #[]
  methods := #[]
  instanceTypes := #[]
  staticTypes := #[]
  resolved := #[]
  callSites := []
  init := .initialized
  statics := none
  mirror := none

def pool0 : Array CpInfo := pool [(5, u "<init>"), (0, u "()V"), (1, .class_ 10), (1, u "java/lang/Object")] 113

def k0c0 : Code := { maxStack := 0, maxLocals := 1, code := object_method_1_code, exceptionTable := #[], attributes := #[] }
def k0m0 : Method := { name := "<init>", desc := "()V", sig := { parameters := [], returnType := none }, accessFlags := 1, code := some k0c0 }
/-- java/lang/Object -/
def k0 : Class := { plain "java/lang/Object" none with
  accessFlags := 33
  interfaces := #[]
  cf := some (fileOf pool0 8 #[] #[{ accessFlags := 1, nameIndex := 5, descriptorIndex := 6, attributes := #[] }] 33 0 #[] #[])
  fields := #[]
  methods := #[k0m0]
  instanceTypes := #[]
  staticTypes := #[]
  resolved := Array.replicate 124 none
  statics := none }

def pool1 : Array CpInfo := pool [(2, .class_ 4), (1, u "java/lang/Object"), (0, u "<init>"), (0, u "()V"), (0, .integer 67108863), (0, .class_ 9), (0, u "com/example/cari/cari/index/Positions"), (0, .methodref 8 11), (0, .nameAndType 5 12), (0, u "([I[I[I)V"), (0, .methodref 8 14), (0, .nameAndType 15 16), (0, u "in"), (0, u "(I)[I"), (0, .methodref 18 19), (0, .class_ 20), (0, .nameAndType 21 22), (0, u "com/example/cari/cari/index/PositionsInPinLaw"), (0, u "same"), (0, u "([I[III)Z"), (2, u "law"), (0, u "(IIIIII)Z")] 5

def k1m0 : Method := { name := "<init>", desc := "()V", sig := { parameters := [], returnType := none }, accessFlags := 1, code := none }
def k1c1 : Code := { maxStack := 7, maxLocals := 26, code := code, exceptionTable := #[], attributes := #[] }
def k1m1 : Method := { name := "law", desc := "(IIIIII)Z", sig := { parameters := [.int, .int, .int, .int, .int, .int], returnType := some .boolean }, accessFlags := 9, code := some k1c1 }
def k1c2 : Code := { maxStack := 4, maxLocals := 4, code := method_3_code, exceptionTable := #[], attributes := #[] }
def k1m2 : Method := { name := "same", desc := "([I[III)Z", sig := { parameters := [(.array .int), (.array .int), .int, .int], returnType := some .boolean }, accessFlags := 10, code := some k1c2 }
/-- com/example/cari/cari/index/PositionsInPinLaw -/
def k1 : Class := { plain "com/example/cari/cari/index/PositionsInPinLaw" (some 0) with
  accessFlags := 49
  interfaces := #[]
  cf := some (fileOf pool1 18 #[] #[{ accessFlags := 1, nameIndex := 5, descriptorIndex := 6, attributes := #[] }, { accessFlags := 9, nameIndex := 25, descriptorIndex := 26, attributes := #[] }, { accessFlags := 10, nameIndex := 21, descriptorIndex := 22, attributes := #[] }] 49 2 #[] #[])
  fields := #[]
  methods := #[k1m0, k1m1, k1m2]
  instanceTypes := #[]
  staticTypes := #[]
  resolved := Array.replicate 32 none
  statics := none }

def pool2 : Array CpInfo := pool [(1, .methodref 2 3), (0, .class_ 4), (0, .nameAndType 5 6), (0, u "java/lang/Object"), (0, u "<init>"), (0, u "()V"), (0, .fieldref 8 9), (0, .class_ 10), (0, .nameAndType 11 12), (0, u "com/example/cari/cari/index/Positions"), (0, u "documents"), (0, u "[I"), (0, .fieldref 8 14), (0, .nameAndType 15 12), (0, u "starts"), (0, .fieldref 8 17), (0, .nameAndType 18 12), (0, u "positions"), (0, .methodref 20 21), (0, .class_ 22), (0, .nameAndType 23 24), (0, u "java/util/Arrays"), (0, u "binarySearch"), (0, u "([II)I"), (0, .methodref 20 26), (0, .nameAndType 27 28), (0, u "copyOfRange"), (0, u "([III)[I"), (2, u "([I[I[I)V"), (2, u "NONE"), (0, u "Lcom/example/cari/cari/index/Positions;"), (2, u "in"), (0, u "(I)[I")] 5

def k2c0 : Code := { maxStack := 2, maxLocals := 4, code := prog_51_method_1_code, exceptionTable := #[], attributes := #[] }
def k2m0 : Method := { name := "<init>", desc := "([I[I[I)V", sig := { parameters := [(.array .int), (.array .int), (.array .int)], returnType := none }, accessFlags := 0, code := some k2c0 }
def k2c1 : Code := { maxStack := 5, maxLocals := 3, code := prog_51_method_2_code, exceptionTable := #[], attributes := #[] }
def k2m1 : Method := { name := "in", desc := "(I)[I", sig := { parameters := [.int], returnType := some (.array .int) }, accessFlags := 1, code := some k2c1 }
/-- com/example/cari/cari/index/Positions -/
def k2 : Class := { plain "com/example/cari/cari/index/Positions" (some 0) with
  accessFlags := 49
  interfaces := #[]
  cf := some (fileOf pool2 8 #[] #[{ accessFlags := 0, nameIndex := 5, descriptorIndex := 31, attributes := #[] }, { accessFlags := 1, nameIndex := 38, descriptorIndex := 39, attributes := #[] }] 49 2 #[] #[{ accessFlags := 24, nameIndex := 34, descriptorIndex := 35, attributes := #[] }, { accessFlags := 18, nameIndex := 11, descriptorIndex := 12, attributes := #[] }, { accessFlags := 18, nameIndex := 15, descriptorIndex := 12, attributes := #[] }, { accessFlags := 18, nameIndex := 18, descriptorIndex := 12, attributes := #[] }])
  fields := #[{ name := "NONE", type := (.object "com/example/cari/cari/index/Positions"), accessFlags := 24, slot := 0, constantValue := 0 }, { name := "documents", type := (.array .int), accessFlags := 18, slot := 0, constantValue := 0 }, { name := "starts", type := (.array .int), accessFlags := 18, slot := 1, constantValue := 0 }, { name := "positions", type := (.array .int), accessFlags := 18, slot := 2, constantValue := 0 }]
  methods := #[k2m0, k2m1]
  instanceTypes := #[(.array .int), (.array .int), (.array .int)]
  staticTypes := #[(.object "com/example/cari/cari/index/Positions")]
  resolved := Array.replicate 45 none
  statics := none }

def pool3 : Array CpInfo := pool [(2, .class_ 4), (1, u "java/lang/Object"), (0, u "<init>"), (0, u "()V"), (7, .class_ 16), (1, u "java/util/Arrays"), (57, .class_ 76), (1, u "java/util/Arrays$NaturalOrder"), (36, .class_ 115), (1, u "java/util/Arrays$LegacyMergeSort"), (1, u "Z"), (21, u "copyOfRange"), (10, .methodref 151 152), (0, .class_ 153), (0, .nameAndType 154 155), (0, u "java/lang/System"), (0, u "arraycopy"), (0, u "(Ljava/lang/Object;ILjava/lang/Object;II)V"), (51, u "binarySearch0"), (1, .methodref 14 210), (0, .nameAndType 207 211), (0, u "([IIII)I"), (92, .methodref 305 306), (0, .class_ 307), (0, .nameAndType 308 309), (0, u "java/lang/Math"), (0, u "min"), (0, u "(II)I"), (33, .methodref 14 344), (0, .nameAndType 345 346), (0, u "checkLength"), (0, u "(II)V"), (4, .methodref 14 352), (0, .nameAndType 353 354), (0, u "copyOfRangeInt"), (0, u "([III)[I"), (20, .class_ 376), (0, u "java/util/Arrays$ArrayList"), (68, u "$assertionsDisabled"), (269, u "MIN_ARRAY_SORT_GRAN"), (0, u "I"), (2, u "INSERTIONSORT_THRESHOLD"), (74, u "binarySearch"), (4, u "([II)I"), (175, .class_ 976), (0, u "java/util/Arrays$ArrayItr")] 52

def k3m0 : Method := { name := "<init>", desc := "()V", sig := { parameters := [], returnType := none }, accessFlags := 2, code := none }
def k3c1 : Code := { maxStack := 4, maxLocals := 2, code := jdk_65_method_57_code, exceptionTable := #[], attributes := #[] }
def k3m1 : Method := { name := "binarySearch", desc := "([II)I", sig := { parameters := [(.array .int), .int], returnType := some .int }, accessFlags := 9, code := some k3c1 }
def k3c2 : Code := { maxStack := 2, maxLocals := 8, code := jdk_65_method_59_code, exceptionTable := #[], attributes := #[] }
def k3m2 : Method := { name := "binarySearch0", desc := "([IIII)I", sig := { parameters := [(.array .int), .int, .int, .int], returnType := some .int }, accessFlags := 10, code := some k3c2 }
def k3c3 : Code := { maxStack := 4, maxLocals := 2, code := jdk_65_method_131_code, exceptionTable := #[], attributes := #[] }
def k3m3 : Method := { name := "checkLength", desc := "(II)V", sig := { parameters := [.int, .int], returnType := none }, accessFlags := 10, code := some k3c3 }
def k3c4 : Code := { maxStack := 3, maxLocals := 3, code := jdk_65_method_136_code, exceptionTable := #[], attributes := #[] }
def k3m4 : Method := { name := "copyOfRange", desc := "([III)[I", sig := { parameters := [(.array .int), .int, .int], returnType := some (.array .int) }, accessFlags := 9, code := some k3c4 }
def k3c5 : Code := { maxStack := 6, maxLocals := 5, code := jdk_65_method_137_code, exceptionTable := #[], attributes := #[] }
def k3m5 : Method := { name := "copyOfRangeInt", desc := "([III)[I", sig := { parameters := [(.array .int), .int, .int], returnType := some (.array .int) }, accessFlags := 10, code := some k3c5 }
/-- java/util/Arrays -/
def k3 : Class := { plain "java/util/Arrays" (some 0) with
  accessFlags := 49
  interfaces := #[]
  cf := some (fileOf pool3 14 #[.nestMembers #[975, 375, 113, 74]] #[{ accessFlags := 2, nameIndex := 5, descriptorIndex := 6, attributes := #[] }, { accessFlags := 9, nameIndex := 794, descriptorIndex := 799, attributes := #[] }, { accessFlags := 10, nameIndex := 207, descriptorIndex := 211, attributes := #[] }, { accessFlags := 10, nameIndex := 345, descriptorIndex := 346, attributes := #[] }, { accessFlags := 9, nameIndex := 139, descriptorIndex := 354, attributes := #[] }, { accessFlags := 10, nameIndex := 353, descriptorIndex := 354, attributes := #[] }] 49 2 #[] #[{ accessFlags := 26, nameIndex := 715, descriptorIndex := 716, attributes := #[] }, { accessFlags := 26, nameIndex := 719, descriptorIndex := 716, attributes := #[] }, { accessFlags := 4120, nameIndex := 445, descriptorIndex := 117, attributes := #[] }])
  fields := #[{ name := "MIN_ARRAY_SORT_GRAN", type := .int, accessFlags := 26, slot := 0, constantValue := 0 }, { name := "INSERTIONSORT_THRESHOLD", type := .int, accessFlags := 26, slot := 1, constantValue := 0 }, { name := "$assertionsDisabled", type := .boolean, accessFlags := 4120, slot := 2, constantValue := 0 }]
  methods := #[k3m0, k3m1, k3m2, k3m3, k3m4, k3m5]
  instanceTypes := #[]
  staticTypes := #[.int, .int, .boolean]
  resolved := Array.replicate 1029 none
  statics := none }

def pool4 : Array CpInfo := pool [(1, .class_ 2), (0, u "java/lang/Math"), (1, .class_ 6), (1, u "java/lang/Object"), (0, u "<init>"), (0, u "()V"), (89, .class_ 100), (1, u "java/lang/Math$RandomNumberGeneratorHolder"), (71, u "negativeZeroFloatBits"), (0, u "J"), (2, u "negativeZeroDoubleBits"), (24, u "min"), (43, u "$assertionsDisabled"), (0, u "Z"), (88, u "(II)I"), (2, u "twoToTheDoubleScaleDown"), (0, u "D"), (4, u "twoToTheDoubleScaleUp"), (9, u "E"), (3, u "PI"), (2, u "TAU"), (2, u "DEGREES_TO_RADIANS"), (0, u "RADIANS_TO_DEGREES")] 94

def k4m0 : Method := { name := "<init>", desc := "()V", sig := { parameters := [], returnType := none }, accessFlags := 2, code := none }
def k4c1 : Code := { maxStack := 2, maxLocals := 2, code := jdk_29_method_69_code, exceptionTable := #[], attributes := #[] }
def k4m1 : Method := { name := "min", desc := "(II)I", sig := { parameters := [.int, .int], returnType := some .int }, accessFlags := 9, code := some k4c1 }
/-- java/lang/Math -/
def k4 : Class := { plain "java/lang/Math" (some 0) with
  accessFlags := 49
  interfaces := #[]
  cf := some (fileOf pool4 1 #[.nestMembers #[98]] #[{ accessFlags := 2, nameIndex := 7, descriptorIndex := 8, attributes := #[] }, { accessFlags := 9, nameIndex := 201, descriptorIndex := 335, attributes := #[] }] 49 4 #[] #[{ accessFlags := 25, nameIndex := 354, descriptorIndex := 339, attributes := #[] }, { accessFlags := 25, nameIndex := 358, descriptorIndex := 339, attributes := #[] }, { accessFlags := 25, nameIndex := 361, descriptorIndex := 339, attributes := #[] }, { accessFlags := 26, nameIndex := 364, descriptorIndex := 339, attributes := #[] }, { accessFlags := 26, nameIndex := 365, descriptorIndex := 339, attributes := #[] }, { accessFlags := 26, nameIndex := 172, descriptorIndex := 173, attributes := #[] }, { accessFlags := 26, nameIndex := 176, descriptorIndex := 173, attributes := #[] }, { accessFlags := 8, nameIndex := 344, descriptorIndex := 339, attributes := #[] }, { accessFlags := 8, nameIndex := 338, descriptorIndex := 339, attributes := #[] }, { accessFlags := 4120, nameIndex := 245, descriptorIndex := 246, attributes := #[] }])
  fields := #[{ name := "E", type := .double, accessFlags := 25, slot := 0, constantValue := 0 }, { name := "PI", type := .double, accessFlags := 25, slot := 1, constantValue := 0 }, { name := "TAU", type := .double, accessFlags := 25, slot := 2, constantValue := 0 }, { name := "DEGREES_TO_RADIANS", type := .double, accessFlags := 26, slot := 3, constantValue := 0 }, { name := "RADIANS_TO_DEGREES", type := .double, accessFlags := 26, slot := 4, constantValue := 0 }, { name := "negativeZeroFloatBits", type := .long, accessFlags := 26, slot := 5, constantValue := 0 }, { name := "negativeZeroDoubleBits", type := .long, accessFlags := 26, slot := 6, constantValue := 0 }, { name := "twoToTheDoubleScaleUp", type := .double, accessFlags := 8, slot := 7, constantValue := 0 }, { name := "twoToTheDoubleScaleDown", type := .double, accessFlags := 8, slot := 8, constantValue := 0 }, { name := "$assertionsDisabled", type := .boolean, accessFlags := 4120, slot := 9, constantValue := 0 }]
  methods := #[k4m0, k4m1]
  instanceTypes := #[]
  staticTypes := #[.double, .double, .double, .double, .double, .long, .long, .double, .double, .boolean]
  resolved := Array.replicate 460 none
  statics := none }

def pool5 : Array CpInfo := pool [(2, .class_ 4), (1, u "java/lang/Object"), (0, u "<init>"), (0, u "()V"), (1, .class_ 10), (1, u "java/lang/System"), (0, u "allowSecurityManager"), (0, u "I"), (16, u "cons"), (0, u "Ljava/io/Console;"), (77, .class_ 110), (1, u "java/lang/System$CallersHolder"), (43, u "initialErrStream"), (0, u "Ljava/io/PrintStream;"), (19, u "security"), (0, u "Ljava/lang/SecurityManager;"), (31, .class_ 209), (0, u "java/lang/System$1"), (7, u "props"), (0, u "Ljava/util/Properties;"), (2, u "lineSeparator"), (0, u "Ljava/lang/String;"), (96, .class_ 321), (1, u "java/lang/System$LoggerFinder"), (5, .class_ 328), (0, u "java/lang/System$Logger"), (67, u "err"), (2, u "out"), (91, u "notSupportedJnuEncoding"), (15, u "in"), (17, u "initialIn"), (0, u "Ljava/io/InputStream;"), (35, u "bootLayer"), (0, u "Ljava/lang/ModuleLayer;"), (99, .class_ 664), (0, u "java/lang/System$2"), (9, u "NEVER"), (2, u "MAYBE"), (49, u "arraycopy"), (0, u "(Ljava/lang/Object;ILjava/lang/Object;II)V"), (72, .class_ 802), (0, u "java/lang/System$Logger$Level")] 31

def k5m0 : Method := { name := "<init>", desc := "()V", sig := { parameters := [], returnType := none }, accessFlags := 2, code := none }
def k5m1 : Method := { name := "arraycopy", desc := "(Ljava/lang/Object;ILjava/lang/Object;II)V", sig := { parameters := [(.object "java/lang/Object"), .int, (.object "java/lang/Object"), .int, .int], returnType := none }, accessFlags := 265, code := none }
/-- java/lang/System -/
def k5 : Class := { plain "java/lang/System" (some 0) with
  accessFlags := 49
  interfaces := #[]
  cf := some (fileOf pool5 8 #[.nestMembers #[319, 327, 801, 108, 663, 208]] #[{ accessFlags := 2, nameIndex := 5, descriptorIndex := 6, attributes := #[] }, { accessFlags := 265, nameIndex := 727, descriptorIndex := 728, attributes := #[] }] 49 2 #[] #[{ accessFlags := 25, nameIndex := 507, descriptorIndex := 526, attributes := #[] }, { accessFlags := 25, nameIndex := 399, descriptorIndex := 155, attributes := #[] }, { accessFlags := 25, nameIndex := 396, descriptorIndex := 155, attributes := #[] }, { accessFlags := 10, nameIndex := 525, descriptorIndex := 526, attributes := #[] }, { accessFlags := 26, nameIndex := 674, descriptorIndex := 12, attributes := #[] }, { accessFlags := 26, nameIndex := 677, descriptorIndex := 12, attributes := #[] }, { accessFlags := 10, nameIndex := 11, descriptorIndex := 12, attributes := #[] }, { accessFlags := 74, nameIndex := 175, descriptorIndex := 176, attributes := #[] }, { accessFlags := 10, nameIndex := 491, descriptorIndex := 222, attributes := #[] }, { accessFlags := 74, nameIndex := 29, descriptorIndex := 30, attributes := #[] }, { accessFlags := 74, nameIndex := 154, descriptorIndex := 155, attributes := #[] }, { accessFlags := 10, nameIndex := 217, descriptorIndex := 218, attributes := #[] }, { accessFlags := 10, nameIndex := 221, descriptorIndex := 222, attributes := #[] }, { accessFlags := 8, nameIndex := 562, descriptorIndex := 563, attributes := #[] }])
  fields := #[{ name := "in", type := (.object "java/io/InputStream"), accessFlags := 25, slot := 0, constantValue := 0 }, { name := "out", type := (.object "java/io/PrintStream"), accessFlags := 25, slot := 1, constantValue := 0 }, { name := "err", type := (.object "java/io/PrintStream"), accessFlags := 25, slot := 2, constantValue := 0 }, { name := "initialIn", type := (.object "java/io/InputStream"), accessFlags := 10, slot := 3, constantValue := 0 }, { name := "NEVER", type := .int, accessFlags := 26, slot := 4, constantValue := 0 }, { name := "MAYBE", type := .int, accessFlags := 26, slot := 5, constantValue := 0 }, { name := "allowSecurityManager", type := .int, accessFlags := 10, slot := 6, constantValue := 0 }, { name := "security", type := (.object "java/lang/SecurityManager"), accessFlags := 74, slot := 7, constantValue := 0 }, { name := "notSupportedJnuEncoding", type := (.object "java/lang/String"), accessFlags := 10, slot := 8, constantValue := 0 }, { name := "cons", type := (.object "java/io/Console"), accessFlags := 74, slot := 9, constantValue := 0 }, { name := "initialErrStream", type := (.object "java/io/PrintStream"), accessFlags := 74, slot := 10, constantValue := 0 }, { name := "props", type := (.object "java/util/Properties"), accessFlags := 10, slot := 11, constantValue := 0 }, { name := "lineSeparator", type := (.object "java/lang/String"), accessFlags := 10, slot := 12, constantValue := 0 }, { name := "bootLayer", type := (.object "java/lang/ModuleLayer"), accessFlags := 8, slot := 13, constantValue := 0 }]
  methods := #[k5m0, k5m1]
  instanceTypes := #[]
  staticTypes := #[(.object "java/io/InputStream"), (.object "java/io/PrintStream"), (.object "java/io/PrintStream"), (.object "java/io/InputStream"), .int, .int, .int, (.object "java/lang/SecurityManager"), (.object "java/lang/String"), (.object "java/io/Console"), (.object "java/io/PrintStream"), (.object "java/util/Properties"), (.object "java/lang/String"), (.object "java/lang/ModuleLayer")]
  resolved := Array.replicate 834 none
  statics := none }

def pool6 : Array CpInfo := pool [(1, u "java/lang/Cloneable"), (0, .class_ 1), (0, u "java/lang/Object"), (0, .class_ 3)] 3

/-- java/lang/Cloneable -/
def k6 : Class := { plain "java/lang/Cloneable" (some 0) with
  accessFlags := 1537
  interfaces := #[]
  cf := some (fileOf pool6 2 #[] #[] 1537 4 #[] #[])
  fields := #[]
  methods := #[]
  instanceTypes := #[]
  staticTypes := #[]
  resolved := Array.replicate 8 none
  statics := none }

def pool7 : Array CpInfo := pool [(1, u "java/io/Serializable"), (0, .class_ 1), (0, u "java/lang/Object"), (0, .class_ 3)] 3

/-- java/io/Serializable -/
def k7 : Class := { plain "java/io/Serializable" (some 0) with
  accessFlags := 1537
  interfaces := #[]
  cf := some (fileOf pool7 2 #[] #[] 1537 4 #[] #[])
  fields := #[]
  methods := #[]
  instanceTypes := #[]
  staticTypes := #[]
  resolved := Array.replicate 8 none
  statics := none }

/-- the primitive byte -/
def k8 : Class := { plain "byte" none with kind := .primitive 'B', accessFlags := 0x411 }
/-- [B -/
def k9 : Class := { plain "[B" (some 0) with kind := .array 8 .byte, interfaces := #[6, 7], accessFlags := 1041 }

/-- the primitive int -/
def k10 : Class := { plain "int" none with kind := .primitive 'I', accessFlags := 0x411 }
/-- [I -/
def k11 : Class := { plain "[I" (some 0) with kind := .array 10 .int, interfaces := #[6, 7], accessFlags := 1041 }

def heap : Heap := #[]
def classes : Array Class := #[k0, k1, k2, k3, k4, k5, k6, k7, k8, k9, k10, k11]
def interned : List (Array UInt16 × Addr) := []
def slotsUsed : Nat := 0
def theMethod : MethodId := ⟨1, 1⟩
def args0 : Array Value := #[.int 1, .int 2, .int 3, .int 4, .int 5, .int 0]
def aboutOver (below : List Frame) : State where
  vm := { classes := classes, interned := interned.toArray }
  heap := heap
  slotsUsed := slotsUsed
  threads := #[{ frames := .invoking theMethod args0 :: below }]
def below0 : List Frame := [.native { method := ⟨0, 0⟩, args := #[] }]
def about1 : State := aboutOver below0
def p0 : Program := .bare "" "" ""
def e0 : Env := launch0.env 0 0 0
theorem w_frames : about1.frames = Frame.invoking theMethod args0 :: below0 := rfl
set_option maxRecDepth 65536 in
theorem w_args : argsFit about1.vm theMethod args0 = true := by decide +kernel
set_option maxRecDepth 65536 in
theorem w_heap : heapFits about1 = true := by decide +kernel
set_option maxRecDepth 65536 in
theorem w_runnable : about1.curStatus? = some .runnable := by decide +kernel
set_option maxRecDepth 65536 in
theorem w_alone : about1.alone = true := by decide +kernel
set_option maxRecDepth 65536 in
theorem w_named : about1.methodNamed? x = some theMethod := by decide +kernel
set_option maxRecDepth 65536 in
theorem w_hears : about1.hears theMethod below0 = true := by decide +kernel
set_option maxRecDepth 65536 in
theorem w_ripe : about1.ripe theMethod args0 below0 = true := by decide +kernel
theorem w_running : about1.status = .running := rfl
set_option maxRecDepth 65536 in
theorem w_room : about1.hasRoom e0.platform room_1 = true :=
  launch0.hasRoom_least _ room_1 (by decide +kernel) (by decide +kernel) (by decide +kernel) (by decide +kernel) (by decide +kernel) (by decide +kernel)
theorem allAtoms_all (ts : List Jvm.Cond) (a : Array Jvm.Value) (st : Jvm.State) : (allAtoms ts).before a st = ts.all (fun c => c.before a st) := by
  induction ts with
  | nil => rfl
  | cons c t ih =>
    show (Jvm.Cond.and c (allAtoms t)).before a st = _
    rw [Jvm.Cond.before_and, ih, List.all_cons]
def words1 : List Jvm.Cond := Jvm.Cond.code x code maxLocals ret :: tables_1
/-- a 'code' word, met by the world's own term for the bytes: nothing is compared byte by byte -/
theorem code_word {y : MethodName} {bytes : ByteArray} {mx : Nat} {rt : Option FieldType} {a : Array Value} {s : State} {m : MethodId} {meth : Method} {c : Code} (h1 : s.methodNamed? y = some m) (h2 : s.vm.method? m = some meth) (h3 : meth.code = some c) (h4 : c.code = bytes)
    (h5 : (c.maxLocals == mx && c.exceptionTable.isEmpty && decide (c.maxStack ≤ mostOperands) && decide (meth.sig.returnType = rt) && !meth.locks && decide (parseMethodDescriptor y.desc = some meth.sig)) = true) : (Jvm.Cond.code y bytes mx rt).before a s = true := by
  simp only [Bool.and_eq_true, beq_iff_eq, Bool.not_eq_true', decide_eq_true_eq] at h5
  obtain ⟨⟨⟨⟨⟨g1, g2⟩, g3⟩, g4⟩, g5⟩, g6⟩ := h5
  simp [Cond.before, Cond.holds, Cond.value, h1, h2, h3, h4, g1, g2, g3, g4, g5, g6]
def isCode : Jvm.Cond → Bool
  | .code _ _ _ _ => true
  | _ => false
theorem all_split {L : List Jvm.Cond} {P : Jvm.Cond → Bool} (h1 : L.all (fun c => isCode c || P c) = true) (h2 : ∀ c ∈ L.filter isCode, P c = true) : L.all P = true := by
  refine List.all_eq_true.mpr fun c hc => ?_
  have h := List.all_eq_true.mp h1 c hc
  rcases Bool.eq_false_or_eq_true (isCode c) with hi | hi
  · exact h2 c (List.mem_filter.mpr ⟨hc, hi⟩)
  · simpa [hi] using h
set_option maxRecDepth 65536 in
theorem w_c0 : (Jvm.Cond.code x code maxLocals ret).before args0 about1 = true := code_word (m := ⟨1, 1⟩) (meth := k1m1) (c := k1c1) (by decide +kernel) rfl rfl rfl (by decide +kernel)
set_option maxRecDepth 65536 in
theorem w_c1 : (Jvm.Cond.code ({ cls := "com/example/cari/cari/index/Positions", name := "<init>", desc := "([I[I[I)V" } : Jvm.MethodName) prog_51_method_1_code (4 : Nat) (Option.none : Option Jvm.ClassFile.FieldType)).before args0 about1 = true := code_word (m := ⟨2, 0⟩) (meth := k2m0) (c := k2c0) (by decide +kernel) rfl rfl rfl (by decide +kernel)
set_option maxRecDepth 65536 in
theorem w_c2 : (Jvm.Cond.code ({ cls := "java/lang/Object", name := "<init>", desc := "()V" } : Jvm.MethodName) object_method_1_code (1 : Nat) (Option.none : Option Jvm.ClassFile.FieldType)).before args0 about1 = true := code_word (m := ⟨0, 0⟩) (meth := k0m0) (c := k0c0) (by decide +kernel) rfl rfl rfl (by decide +kernel)
set_option maxRecDepth 65536 in
theorem w_c3 : (Jvm.Cond.code ({ cls := "com/example/cari/cari/index/Positions", name := "in", desc := "(I)[I" } : Jvm.MethodName) prog_51_method_2_code (3 : Nat) (Option.some (Jvm.ClassFile.FieldType.array Jvm.ClassFile.FieldType.int))).before args0 about1 = true := code_word (m := ⟨2, 1⟩) (meth := k2m1) (c := k2c1) (by decide +kernel) rfl rfl rfl (by decide +kernel)
set_option maxRecDepth 65536 in
theorem w_c4 : (Jvm.Cond.code ({ cls := "java/util/Arrays", name := "binarySearch", desc := "([II)I" } : Jvm.MethodName) jdk_65_method_57_code (2 : Nat) (Option.some Jvm.ClassFile.FieldType.int)).before args0 about1 = true := code_word (m := ⟨3, 1⟩) (meth := k3m1) (c := k3c1) (by decide +kernel) rfl rfl rfl (by decide +kernel)
set_option maxRecDepth 65536 in
theorem w_c5 : (Jvm.Cond.code ({ cls := "java/util/Arrays", name := "binarySearch0", desc := "([IIII)I" } : Jvm.MethodName) jdk_65_method_59_code (8 : Nat) (Option.some Jvm.ClassFile.FieldType.int)).before args0 about1 = true := code_word (m := ⟨3, 2⟩) (meth := k3m2) (c := k3c2) (by decide +kernel) rfl rfl rfl (by decide +kernel)
set_option maxRecDepth 65536 in
theorem w_c6 : (Jvm.Cond.code ({ cls := "java/util/Arrays", name := "copyOfRange", desc := "([III)[I" } : Jvm.MethodName) jdk_65_method_136_code (3 : Nat) (Option.some (Jvm.ClassFile.FieldType.array Jvm.ClassFile.FieldType.int))).before args0 about1 = true := code_word (m := ⟨3, 4⟩) (meth := k3m4) (c := k3c4) (by decide +kernel) rfl rfl rfl (by decide +kernel)
set_option maxRecDepth 65536 in
theorem w_c7 : (Jvm.Cond.code ({ cls := "java/util/Arrays", name := "copyOfRangeInt", desc := "([III)[I" } : Jvm.MethodName) jdk_65_method_137_code (5 : Nat) (Option.some (Jvm.ClassFile.FieldType.array Jvm.ClassFile.FieldType.int))).before args0 about1 = true := code_word (m := ⟨3, 5⟩) (meth := k3m5) (c := k3c5) (by decide +kernel) rfl rfl rfl (by decide +kernel)
set_option maxRecDepth 65536 in
theorem w_c8 : (Jvm.Cond.code ({ cls := "java/util/Arrays", name := "checkLength", desc := "(II)V" } : Jvm.MethodName) jdk_65_method_131_code (2 : Nat) (Option.none : Option Jvm.ClassFile.FieldType)).before args0 about1 = true := code_word (m := ⟨3, 3⟩) (meth := k3m3) (c := k3c3) (by decide +kernel) rfl rfl rfl (by decide +kernel)
set_option maxRecDepth 65536 in
theorem w_c9 : (Jvm.Cond.code ({ cls := "java/lang/Math", name := "min", desc := "(II)I" } : Jvm.MethodName) jdk_29_method_69_code (2 : Nat) (Option.some Jvm.ClassFile.FieldType.int)).before args0 about1 = true := code_word (m := ⟨4, 1⟩) (meth := k4m1) (c := k4c1) (by decide +kernel) rfl rfl rfl (by decide +kernel)
set_option maxRecDepth 65536 in
theorem w_c10 : (Jvm.Cond.code ({ cls := "com/example/cari/cari/index/PositionsInPinLaw", name := "same", desc := "([I[III)Z" } : Jvm.MethodName) method_3_code (4 : Nat) (Option.some Jvm.ClassFile.FieldType.boolean)).before args0 about1 = true := code_word (m := ⟨1, 2⟩) (meth := k1m2) (c := k1c2) (by decide +kernel) rfl rfl rfl (by decide +kernel)
def codes1 : List Jvm.Cond := [Jvm.Cond.code x code maxLocals ret, Jvm.Cond.code ({ cls := "com/example/cari/cari/index/Positions", name := "<init>", desc := "([I[I[I)V" } : Jvm.MethodName) prog_51_method_1_code (4 : Nat) (Option.none : Option Jvm.ClassFile.FieldType), Jvm.Cond.code ({ cls := "java/lang/Object", name := "<init>", desc := "()V" } : Jvm.MethodName) object_method_1_code (1 : Nat) (Option.none : Option Jvm.ClassFile.FieldType), Jvm.Cond.code ({ cls := "com/example/cari/cari/index/Positions", name := "in", desc := "(I)[I" } : Jvm.MethodName) prog_51_method_2_code (3 : Nat) (Option.some (Jvm.ClassFile.FieldType.array Jvm.ClassFile.FieldType.int)), Jvm.Cond.code ({ cls := "java/util/Arrays", name := "binarySearch", desc := "([II)I" } : Jvm.MethodName) jdk_65_method_57_code (2 : Nat) (Option.some Jvm.ClassFile.FieldType.int), Jvm.Cond.code ({ cls := "java/util/Arrays", name := "binarySearch0", desc := "([IIII)I" } : Jvm.MethodName) jdk_65_method_59_code (8 : Nat) (Option.some Jvm.ClassFile.FieldType.int), Jvm.Cond.code ({ cls := "java/util/Arrays", name := "copyOfRange", desc := "([III)[I" } : Jvm.MethodName) jdk_65_method_136_code (3 : Nat) (Option.some (Jvm.ClassFile.FieldType.array Jvm.ClassFile.FieldType.int)), Jvm.Cond.code ({ cls := "java/util/Arrays", name := "copyOfRangeInt", desc := "([III)[I" } : Jvm.MethodName) jdk_65_method_137_code (5 : Nat) (Option.some (Jvm.ClassFile.FieldType.array Jvm.ClassFile.FieldType.int)), Jvm.Cond.code ({ cls := "java/util/Arrays", name := "checkLength", desc := "(II)V" } : Jvm.MethodName) jdk_65_method_131_code (2 : Nat) (Option.none : Option Jvm.ClassFile.FieldType), Jvm.Cond.code ({ cls := "java/lang/Math", name := "min", desc := "(II)I" } : Jvm.MethodName) jdk_29_method_69_code (2 : Nat) (Option.some Jvm.ClassFile.FieldType.int), Jvm.Cond.code ({ cls := "com/example/cari/cari/index/PositionsInPinLaw", name := "same", desc := "([I[III)Z" } : Jvm.MethodName) method_3_code (4 : Nat) (Option.some Jvm.ClassFile.FieldType.boolean)]
set_option maxRecDepth 65536 in
theorem codes_eq : words1.filter isCode = codes1 := rfl
theorem w_codes : ∀ c ∈ words1.filter isCode, c.before args0 about1 = true := by
  rw [codes_eq]
  intro c hc
  simp only [codes1, List.mem_cons, List.not_mem_nil, or_false] at hc
  rcases hc with rfl | rfl | rfl | rfl | rfl | rfl | rfl | rfl | rfl | rfl | rfl
  · exact w_c0
  · exact w_c1
  · exact w_c2
  · exact w_c3
  · exact w_c4
  · exact w_c5
  · exact w_c6
  · exact w_c7
  · exact w_c8
  · exact w_c9
  · exact w_c10
set_option maxRecDepth 65536 in
theorem w_t1 : (words1.take 24).all (fun c => isCode c || c.before args0 about1) = true := by decide +kernel
set_option maxRecDepth 65536 in
theorem w_t2 : ((words1.drop 24).take 24).all (fun c => isCode c || c.before args0 about1) = true := by decide +kernel
set_option maxRecDepth 65536 in
theorem w_t3 : ((words1.drop 24).drop 24).all (fun c => isCode c || c.before args0 about1) = true := by decide +kernel
theorem w_tables : (allAtoms (Jvm.Cond.code x code maxLocals ret :: tables_1)).before args0 about1 = true := by
  rw [allAtoms_all]
  show words1.all (fun c => c.before args0 about1) = true
  refine all_split ?_ w_codes
  rw [← List.take_append_drop 24 words1, List.all_append, w_t1, ← List.take_append_drop 24 (words1.drop 24), List.all_append, w_t2, w_t3]
  rfl
set_option maxRecDepth 65536 in
theorem w_case : (Jvm.Cond.and given_1 narrow_1).before args0 about1 = true := by decide +kernel
theorem w_applies : (headSpec (Jvm.Cond.code x code maxLocals ret :: tables_1) room_1).applies x e0.platform about1 = true :=
  (Spec.applies_iff w_frames).mpr ⟨w_running, w_runnable, w_alone, w_named, w_hears, w_ripe, w_room, w_tables⟩
theorem atStart : AtStart classFile x code maxLocals ret World_1 tables_1 room_1 Calls_1 rest_1 Pre_1 launch0 p0 e0 about1 theMethod args0 below0 :=
  ⟨lists_1, trivial, launch0.admits_env _ _ _, launch0.least_env, fairChoices_fair.cas, fairChoices_fair.clock, w_frames, w_args, w_heap, w_applies, trivial, trivial, w_case⟩
end start1
theorem witness_1 : WitnessClaimed_1 := ⟨start1.p0, start1.e0, start1.about1, start1.theMethod, start1.args0, start1.below0, start1.atStart⟩
end Jvm.Pilot.@@N@@
