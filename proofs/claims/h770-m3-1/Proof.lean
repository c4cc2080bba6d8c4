import JvmDerived
import JvmDerived.Pilot.@@N@@Statement
import JvmDerived.Pilot.@@N@@Code
set_option linter.unusedVariables false
set_option linter.unusedSimpArgs false
namespace Jvm.Pilot.@@N@@
open Jvm Jvm.ClassFile Sem Op Lib Jvm.Free Jvm.Stand Jvm.LawKit Jvm.RoadKit Bundle Jvm.Pilot.@@N@@.Jvm.D
/-! the walk goes on from A and ends as P says -/
def OGo (tb : Tables) (e : Env) (below : List Frame) (P : State → Outcome → Prop) (A : State) : Prop := ∃ U o, Steps tb e below A U ∧ U.status = .running ∧ Ended U below o ∧ P U o
def OPost (s : State) (Q : Option Value → Heap → List Loc → Prop) (k n : Nat) (U : State) (o : Outcome) : Prop := ∃ v L, o = .returned v ∧ Q v U.heap L ∧ FrameEnd s o U L k n
theorem OGo.st {tb : Tables} {e : Env} {below : List Frame} {P : State → Outcome → Prop} {A B : State} (st : ∀ t, Steps tb e below B t → Steps tb e below A t) (h : OGo tb e below P B) : OGo tb e below P A := by
  obtain ⟨U, o, h1, h2⟩ := h; exact ⟨U, o, st _ h1, h2⟩
theorem OGo.tr {tb : Tables} {e : Env} {below : List Frame} {P : State → Outcome → Prop} {A B : State} (st : Steps tb e below A B) (h : OGo tb e below P B) : OGo tb e below P A := by
  obtain ⟨U, o, h1, h2⟩ := h; exact ⟨U, o, st.trans h1, h2⟩
theorem OGo.enter {tb : Tables} {e : Env} {below : List Frame} {P : State → Outcome → Prop} {T : State} {g g' : JFrame} (q : g = g') (h : OGo tb e below P (T.setTop g')) : OGo tb e below P (T.setTop g) := q ▸ h
section Own
variable {p : Program} {l : Launch} {e : Env} {R : Room} {s : State} {m : MethodId} {args : Array Value} {below : List Frame} {meth : Method} {c : Code} {T : State} {locs : List Loc} {cells slots k n : Nat} {Q : Option Value → Heap → List Loc → Prop}
theorem OGo.fin (X : Stand p l e R s m args below meth c T locs cells slots) {v : Option Value} (hv : meth.sig.returnType = none → v = none) (hlk : meth.locks = false) {g : JFrame}
    (hst : ∀ fs, (∀ (f : JFrame) (acts : List Action), f.method = m → f.locked = none → f.entered = [] → (doReturn e (T.setTop f) acts v).1 = T.setFrames fs) → Steps p.tables e below (T.setTop g) (T.setFrames fs)) (hq : Q v T.heap locs) (hk : cells ≤ k) (hn : slots ≤ n) : OGo p.tables e below (OPost s Q k n) (T.setTop g) := by
  obtain ⟨fs, hr, hrun, hended, hW, hsame⟩ := X.leave hv hlk
  exact ⟨_, _, hst fs hr, hrun, hended, _, _, rfl, hq, ⟨_, rfl⟩, hW, hsame.mono hk hn⟩
theorem own_wide (X : Stand p l e R s m args below meth c T locs cells slots) {k n : Nat} (hk : cells ≤ k) (hn : slots ≤ n) : Stand p l e R s m args below meth c T locs k n := { X with same := X.same.mono hk hn }
end Own
abbrev OMet (l : Launch) (Z : State) (y : MethodName) (code : ByteArray) (ml : Nat) (ret : Option FieldType) (ws : List Jvm.Cond) (rm : Room) (as : Array Value) (h0 : Heap) (Q : Option Value → Heap → List Loc → Prop) : Prop :=
  MetFree l y (head1 (Jvm.Cond.code y code ml ret :: ws) rm) (fun a U => a = as ∧ Z.Warmed39 U.vm ∧ U.heap = h0) (fun _ _ _ _ _ => True) (fun _ U o U' => ∃ v L, o = .returned v ∧ Q v U'.heap L ∧ FrameEnd U o U' L rm.cells rm.slots)
def Arf (Z : State) (h : Heap) (a : Addr) (k : ClassId) (ty : FieldType) (n : Int32) (f : Nat → Value) : Prop := ∃ c : Cell, Arr Z h a c ty ∧ c.cls = k ∧ c.slots.size = n.toNatClampNeg ∧ ¬ n < 0 ∧ (∀ i, i < c.slots.size → c.slots[i]? = some (f i)) ∧ ∀ i, i < c.slots.size → fits ty (f i) = true
def own_upd (f : Nat → Value) (j : Nat) (v : Value) : Nat → Value := fun i => if i = j then v else f i
section OwnArr
variable {p : Program} {l : Launch} {e : Env} {R : Room} {s : State} {m : MethodId} {args : Array Value} {below : List Frame} {meth : Method} {c : Code} {T : State} {locs : List Loc} {cells slots : Nat} {Z : State} {h h' : Heap} {a b : Addr} {k : ClassId} {ty : FieldType} {n j : Int32} {f f' : Nat → Value} {sl : Nat} {v : Value} {ws : List Addr}
theorem Arf.lt (F : Arf Z h a k ty n f) : a < h.size := by obtain ⟨c, A, _⟩ := F; exact A.lt
theorem Arf.ext (F : Arf Z h a k ty n f) (E : Ext h h') : Arf Z h' a k ty n f := by obtain ⟨c, A, r⟩ := F; exact ⟨c, A.ext E, r⟩
theorem Arf.other (F : Arf Z h b k ty n f) (W : Wr h h' a sl v) (q : b ≠ a) : Arf Z h' b k ty n f := by obtain ⟨c, A, r⟩ := F; exact ⟨c, A.other W q, r⟩
theorem Arf.keep (F : Arf Z h a k ty n f) (K : Keep h h' ws) (q : a ∉ ws) : Arf Z h' a k ty n f := by obtain ⟨c, A, r⟩ := F; exact ⟨c, ⟨K.2.1 a c A.1 q, A.2⟩, r⟩
theorem Arf.pos (F : Arf Z h a k ty n f) : ¬ n < 0 := by obtain ⟨c, A, h1, h2, h3, -⟩ := F; exact h3
theorem Arf.congr (F : Arf Z h a k ty n f) (q : ∀ i, i < n.toNatClampNeg → f i = f' i) : Arf Z h a k ty n f' := by
  obtain ⟨c, A, h1, h2, h3, H, G⟩ := F
  exact ⟨c, A, h1, h2, h3, fun i hi => by rw [H i hi, q i (h2 ▸ hi)], fun i hi => by rw [← q i (h2 ▸ hi)]; exact G i hi⟩
theorem own_new (A : Arr Z h a (newA k ty n) ty) (q : ¬ n < 0) : Arf Z h a k ty n (fun _ => defaultValue ty) := by
  obtain ⟨c, A', h1, h2, h3, H, G⟩ := Arv.new A q
  exact ⟨c, A', h1, h2, h3, fun i hi => by have := H i hi; simpa using this, fun i hi => by have := G i hi; simpa using this⟩
theorem own_set (F : Arf Z h a k ty n f) (hv : fits ty v = true) {jj : Nat} (W : Wr h h' a jj v) : Arf Z h' a k ty n (own_upd f jj v) := by
  obtain ⟨c, A, h1, h2, h3, H, G⟩ := F
  have hj : jj < c.slots.size := by obtain ⟨c', w1, -, w3, -⟩ := W; cases w1.symm.trans A.1; exact w3
  refine ⟨c.setSlot jj v, A.same W, h1, by simpa [Cell.setSlot] using h2, h3, fun i hi => ?_, fun i hi => ?_⟩
  · have hi' : i < c.slots.size := by simpa [Cell.setSlot] using hi
    by_cases q : i = jj
    · subst q; simp [Cell.setSlot, own_upd, hi']
    · have := H i hi'; simp only [own_upd, if_neg q]; rw [← this]; exact Array.getElem?_setIfInBounds_ne (Ne.symm q)
  · have hi' : i < c.slots.size := by simpa [Cell.setSlot] using hi
    by_cases q : i = jj
    · simp only [own_upd, if_pos q]; exact hv
    · simp only [own_upd, if_neg q]; exact G i hi'
theorem own_alen (X : Stand p l e R s m args below meth c T locs cells slots) (hx : p.tables.exec = Jvm.exec) (hZ : Z.Warmed39 s.vm) (eT : T.heap = h) (F : Arf Z h a k ty n f) {g : JFrame} (hg : g.method = m) {rest : List Value} (hs : g.stack = .ref a :: rest) (hd : decode c.code g.pc = .ok (.arraylength, 1)) :
    ∀ t, Steps p.tables e below (T.setTop { g with pc := g.pc + 1, stack := .int n :: rest }) t → Steps p.tables e below (T.setTop g) t := by
  obtain ⟨cl, A, h1, S, N, H, G⟩ := F
  intro t k_
  refine X.arraylength hx (by rw [eT]; exact A.1) (State.isArrayOf_alike hZ.alike A.2.1) hg hs hd t ?_
  rw [len_of S N]; exact k_
theorem own_at (S : cells = n.toNatClampNeg) (hin : ¬ j < 0 ∧ j < n) : j.toNatClampNeg < cells := by
  have h1 := nat_of hin.1
  have h2 : ¬ n < 0 := fun q => by have := hin.1; have := hin.2; rw [Int32.lt_iff_toInt_lt] at *; omega
  have h3 := nat_of h2
  have h4 := hin.2; rw [Int32.lt_iff_toInt_lt] at h4; omega
theorem own_ldI (X : Stand p l e R s m args below meth c T locs cells slots) (hx : p.tables.exec = Jvm.exec) (hZ : Z.Warmed39 s.vm) (eT : T.heap = h) (F : Arf Z h a k .int n f) {j v : Int32} (hin : ¬ j < 0 ∧ j < n) (hv : f j.toNatClampNeg = .int v) {g : JFrame} (hg : g.method = m) {rest : List Value} (hs : g.stack = .int j :: .ref a :: rest) (hd : decode c.code g.pc = .ok (.iaload, 1)) :
    ∀ t, Steps p.tables e below (T.setTop { g with pc := g.pc + 1, stack := .int v :: rest }) t → Steps p.tables e below (T.setTop g) t := by
  obtain ⟨cl, A, h1, S, N, H, G⟩ := F
  exact X.iaload hx (by rw [eT]; exact A.1) (State.isArrayOf_alike hZ.alike A.2.1) A.2.2 (inb_of S hin) (by rw [H _ (own_at S hin), hv]) hg hs hd
theorem own_ldJ (X : Stand p l e R s m args below meth c T locs cells slots) (hx : p.tables.exec = Jvm.exec) (hZ : Z.Warmed39 s.vm) (eT : T.heap = h) (F : Arf Z h a k .long n f) {j : Int32} {v : Int64} (hin : ¬ j < 0 ∧ j < n) (hv : f j.toNatClampNeg = .long v) {g : JFrame} (hg : g.method = m) {rest : List Value} (hs : g.stack = .int j :: .ref a :: rest) (hd : decode c.code g.pc = .ok (.laload, 1)) :
    ∀ t, Steps p.tables e below (T.setTop { g with pc := g.pc + 1, stack := .long v :: rest }) t → Steps p.tables e below (T.setTop g) t := by
  obtain ⟨cl, A, h1, S, N, H, G⟩ := F
  exact X.laload hx (by rw [eT]; exact A.1) (State.isArrayOf_alike hZ.alike A.2.1) A.2.2 (inb_of S hin) (by rw [H _ (own_at S hin), hv]) hg hs hd
theorem own_ldB (X : Stand p l e R s m args below meth c T locs cells slots) (hx : p.tables.exec = Jvm.exec) (hZ : Z.Warmed39 s.vm) (eT : T.heap = h) (F : Arf Z h a k .byte n f) {j v : Int32} (hin : ¬ j < 0 ∧ j < n) (hv : f j.toNatClampNeg = .int v) {g : JFrame} (hg : g.method = m) {rest : List Value} (hs : g.stack = .int j :: .ref a :: rest) (hd : decode c.code g.pc = .ok (.baload, 1)) :
    ∀ t, Steps p.tables e below (T.setTop { g with pc := g.pc + 1, stack := .int v :: rest }) t → Steps p.tables e below (T.setTop g) t := by
  obtain ⟨cl, A, h1, S, N, H, G⟩ := F
  exact X.baloadBytes hx (by rw [eT]; exact A.1) (State.isArrayOf_alike hZ.alike A.2.1) A.2.2 (inb_of S hin) (by rw [H _ (own_at S hin), hv]) hg hs hd
theorem own_ldR (X : Stand p l e R s m args below meth c T locs cells slots) (hx : p.tables.exec = Jvm.exec) (hZ : Z.Warmed39 s.vm) (eT : T.heap = h) {C : String} (F : Arf Z h a k (.object C) n f) {j : Int32} {v : Value} (hin : ¬ j < 0 ∧ j < n) (hv : f j.toNatClampNeg = v) {g : JFrame} (hg : g.method = m) {rest : List Value} (hs : g.stack = .int j :: .ref a :: rest) (hd : decode c.code g.pc = .ok (.aaload, 1)) :
    ∀ t, Steps p.tables e below (T.setTop { g with pc := g.pc + 1, stack := v :: rest }) t → Steps p.tables e below (T.setTop g) t := by
  obtain ⟨cl, A, h1, S, N, H, G⟩ := F
  exact X.aaload hx (by rw [eT]; exact A.1) (State.isArrayOf_alike hZ.alike A.2.1) rfl A.2.2 (inb_of S hin) (by rw [H _ (own_at S hin), hv]) hg hs hd
theorem own_stI (X : Stand p l e R s m args below meth c T locs cells slots) (hx : p.tables.exec = Jvm.exec) (hZ : Z.Warmed39 s.vm) (eT : T.heap = h) (F : Arf Z h a k .int n f) {j x : Int32} (hin : ¬ j < 0 ∧ j < n) {g : JFrame} (hg : g.method = m) {rest : List Value} (hs : g.stack = .int x :: .int j :: .ref a :: rest) (hd : decode c.code g.pc = .ok (.iastore, 1)) :
    ∃ T' h', Stand p l e R s m args below meth c T' (locs ++ [⟨a, j.toNatClampNeg⟩]) cells slots ∧ T'.heap = h' ∧ Wr h h' a j.toNatClampNeg (.int x) ∧ Arf Z h' a k .int n (own_upd f j.toNatClampNeg (.int x)) ∧ ∀ target, Steps p.tables e below (T'.setTop { g with pc := g.pc + 1, stack := rest }) target → Steps p.tables e below (T.setTop g) target := by
  obtain ⟨cl, A, h1, S, N, H, G⟩ := id F
  obtain ⟨T', h', X', e', W, st⟩ := stI X hx hZ eT A (inb_of S hin) hg hs hd
  exact ⟨T', h', X', e', W, own_set F rfl W, st⟩
theorem own_stJ (X : Stand p l e R s m args below meth c T locs cells slots) (hx : p.tables.exec = Jvm.exec) (hZ : Z.Warmed39 s.vm) (eT : T.heap = h) (F : Arf Z h a k .long n f) {j : Int32} {x : Int64} (hin : ¬ j < 0 ∧ j < n) {g : JFrame} (hg : g.method = m) {rest : List Value} (hs : g.stack = .long x :: .int j :: .ref a :: rest) (hd : decode c.code g.pc = .ok (.lastore, 1)) :
    ∃ T' h', Stand p l e R s m args below meth c T' (locs ++ [⟨a, j.toNatClampNeg⟩]) cells slots ∧ T'.heap = h' ∧ Wr h h' a j.toNatClampNeg (.long x) ∧ Arf Z h' a k .long n (own_upd f j.toNatClampNeg (.long x)) ∧ ∀ target, Steps p.tables e below (T'.setTop { g with pc := g.pc + 1, stack := rest }) target → Steps p.tables e below (T.setTop g) target := by
  obtain ⟨cl, A, h1, S, N, H, G⟩ := id F
  obtain ⟨T', h', X', e', W, st⟩ := stJ X hx hZ eT A (inb_of S hin) hg hs hd
  exact ⟨T', h', X', e', W, own_set F rfl W, st⟩
theorem own_stB (X : Stand p l e R s m args below meth c T locs cells slots) (hx : p.tables.exec = Jvm.exec) (hZ : Z.Warmed39 s.vm) (eT : T.heap = h) (F : Arf Z h a k .byte n f) {j x : Int32} (hin : ¬ j < 0 ∧ j < n) {g : JFrame} (hg : g.method = m) {rest : List Value} (hs : g.stack = .int x :: .int j :: .ref a :: rest) (hd : decode c.code g.pc = .ok (.bastore, 1)) :
    ∃ T' h', Stand p l e R s m args below meth c T' (locs ++ [⟨a, j.toNatClampNeg⟩]) cells slots ∧ T'.heap = h' ∧ Wr h h' a j.toNatClampNeg (.int (nar .byte x)) ∧ Arf Z h' a k .byte n (own_upd f j.toNatClampNeg (.int (nar .byte x))) ∧ ∀ target, Steps p.tables e below (T'.setTop { g with pc := g.pc + 1, stack := rest }) target → Steps p.tables e below (T.setTop g) target := by
  obtain ⟨cl, A, h1, S, N, H, G⟩ := id F
  obtain ⟨T', h', X', e', W, st⟩ := stB X hx hZ eT A (inb_of S hin) hg hs hd
  exact ⟨T', h', X', e', W, own_set F (fits_nar_byte _) W, st⟩
theorem own_stR (X : Stand p l e R s m args below meth c T locs cells slots) (hx : p.tables.exec = Jvm.exec) (hZ : Z.Warmed39 s.vm) (eT : T.heap = h) {C : String} (F : Arf Z h a k (.object C) n f) {j : Int32} {x : Value} (hin : ¬ j < 0 ∧ j < n) (hr : x.isRef = true) (hS : Sto Z h a x) {g : JFrame} (hg : g.method = m) {rest : List Value} (hs : g.stack = x :: .int j :: .ref a :: rest) (hd : decode c.code g.pc = .ok (.aastore, 1)) :
    ∃ T' h', Stand p l e R s m args below meth c T' (locs ++ [⟨a, j.toNatClampNeg⟩]) cells slots ∧ T'.heap = h' ∧ Wr h h' a j.toNatClampNeg x ∧ Arf Z h' a k (.object C) n (own_upd f j.toNatClampNeg x) ∧ ∀ target, Steps p.tables e below (T'.setTop { g with pc := g.pc + 1, stack := rest }) target → Steps p.tables e below (T.setTop g) target := by
  obtain ⟨cl, A, h1, S, N, H, G⟩ := id F
  obtain ⟨T', h', X', e', W, st⟩ := stR X hx hZ eT A (inb_of S hin) rfl hS hg hs hd
  exact ⟨T', h', X', e', W, own_set F (by rcases ref_cases hr with rfl | ⟨y, rfl⟩ <;> rfl) W, st⟩
theorem own_getD (f : Nat → Value) (n i : Nat) (d : Value) (h : i < n) : ((List.range n).map f).getD i d = f i := by
  simp [List.getD_eq_getElem?_getD, h]
theorem Arf.arv (F : Arf Z h a k ty n f) (d : Value) : Arv Z h a k ty n ((List.range n.toNatClampNeg).map f) d := by
  obtain ⟨c, A, h1, S, N, H, G⟩ := F
  exact ⟨c, A, h1, S, N, fun i hi => by rw [own_getD f _ i d (S ▸ hi)]; exact H i hi, fun i hi => by rw [own_getD f _ i d (S ▸ hi)]; exact G i hi⟩
theorem own_ofArv {vs : List Value} {d : Value} (F : Arv Z h a k ty n vs d) : Arf Z h a k ty n (fun i => vs.getD i d) := F
/-- System.arraycopy of a part of a primitive array into another one -/
theorem own_copy (X : Stand p l e R s m args below meth c T locs cells slots) (hx : p.tables.exec = Jvm.exec) (hZ : Z.Warmed39 s.vm) {a0 : Array Value} {own : String} {index : Nat} (hown : s.vm.findClass own = some m.cls)
    (w1 : (Jvm.Cond.methodLink own index Jvm.Stand.acN).before a0 Z = true) (w2 : (Jvm.Cond.native Jvm.Stand.acN).before a0 Z = true) (w3 : (Jvm.Cond.static Jvm.Stand.acN).before a0 Z = true) (w4 : (Jvm.Cond.initialized "java/lang/System").before a0 Z = true) (eT : T.heap = h)
    {k' : ClassId} {z' sp dp nn : Int32} (A : Arf Z h a k ty n f) (B : Arf Z h b k' ty z' f') (hty : refKind ty = false)
    (h1 : ¬ sp < 0) (h2 : ¬ dp < 0) (h3 : ¬ nn < 0) (h4 : sp.toNatClampNeg + nn.toNatClampNeg ≤ n.toNatClampNeg) (h5 : dp.toNatClampNeg + nn.toNatClampNeg ≤ z'.toNatClampNeg) {n0 : Nat} (N : Fr n0 locs) (ge : n0 ≤ b)
    {g : JFrame} (hg : g.method = m) (hsize : g.locals.size = c.maxLocals) {rest : List Value} (hs : g.stack = .int nn :: .int dp :: .ref b :: .int sp :: .ref a :: rest) (hd : decode c.code g.pc = .ok (.invokestatic index, 3))
    (hf : 1 ≤ R.frames) {W : Nat} (hW : 2 * g.monitorRoom + (rest.map fun v => v.category).sum ≤ W) (hlo : W + (nativeFrameWords "java/lang/System" "arraycopy" 5 + 11) ≤ R.locals) :
    ∃ T' h' L, Stand p l e R s m args below meth c T' L cells slots ∧ T'.heap = h' ∧ Fr n0 L ∧ Keep h h' [b] ∧ Arf Z h' b k' ty z' (fun i => if dp.toNatClampNeg ≤ i ∧ i < dp.toNatClampNeg + nn.toNatClampNeg then f (sp.toNatClampNeg + (i - dp.toNatClampNeg)) else f' i) ∧
      ∀ target, Steps p.tables e below (T'.setTop { g with pc := g.pc + 3, stack := rest }) target → Steps p.tables e below (T.setTop g) target := by
  obtain ⟨T', h', L, X', e', N', K', V', st⟩ := cpA X hx hZ hown w1 w2 w3 w4 eT (A.arv .null) (B.arv .null) (Or.inl ⟨rfl, hty⟩) h1 h2 h3 h4 h5 rfl (by simpa using h5) N ge hg hsize hs hd hf hW hlo
  refine ⟨T', h', L, X', e', N', K', (own_ofArv V').congr fun i hi => ?_, st⟩
  have hb : dp.toNatClampNeg ≤ z'.toNatClampNeg := by omega
  simp only [List.getD_eq_getElem?_getD]
  by_cases q1 : i < dp.toNatClampNeg
  · rw [if_neg (by omega), List.append_assoc, List.getElem?_append_left (by simp; omega), List.getElem?_take_of_lt q1]; simp [hi]
  · by_cases q2 : i < dp.toNatClampNeg + nn.toNatClampNeg
    · rw [if_pos ⟨by omega, q2⟩, List.append_assoc, List.getElem?_append_right (by simp; omega), List.getElem?_append_left (by simp; omega)]
      have e1 : min dp.toNatClampNeg z'.toNatClampNeg = dp.toNatClampNeg := Nat.min_eq_left hb
      simp only [List.length_take, List.length_map, List.length_range, e1]
      have e2 : i - dp.toNatClampNeg < nn.toNatClampNeg := by omega
      have e3 : sp.toNatClampNeg + (i - dp.toNatClampNeg) < n.toNatClampNeg := by omega
      simp [e2, e3]
    · rw [if_neg (by omega), List.getElem?_append_right (by simp; omega)]
      have e1 : min dp.toNatClampNeg z'.toNatClampNeg = dp.toNatClampNeg := Nat.min_eq_left hb
      simp only [List.length_append, List.length_take, List.length_map, List.length_range, e1, List.getElem?_drop]
      have e2 : dp.toNatClampNeg + nn.toNatClampNeg + (i - (dp.toNatClampNeg + nn.toNatClampNeg)) = i := by omega
      rw [e2]; simp [hi]
end OwnArr
def own_ix (p : Int32) : Int32 := ((p.toUInt32 >>> ((6 : Int32) &&& 31).toUInt32).toInt32)
def own_nn (p : Int32) : Nat := p.toBitVec.toNat
def own_add (w : Nat → Int64) (p : Int32) : Nat → Int64 := fun i => if i = (own_ix p).toNatClampNeg then w i ||| ((1 : Int64) <<< (p &&& 0x3f).toInt64) else w i
def own_mem (w : Nat → Int64) (p : Int32) : Bool := (w (own_nn p / 64)).toBitVec.getLsbD (own_nn p % 64)
theorem own_nat (z : Int32) (k : Nat) (h : z.toBitVec.toNat = k) (hk : k < 2 ^ 31) : z.toInt = k := by
  show z.toBitVec.toInt = k
  rw [BitVec.toInt_eq_toNat_of_lt (by omega), h]
theorem own_ixn (p : Int32) : (own_ix p).toBitVec.toNat = own_nn p / 64 := by
  show (p.toUInt32 >>> ((6 : Int32) &&& 31).toUInt32).toBitVec.toNat = _
  rw [UInt32.toBitVec_shiftRight]
  show (p.toBitVec >>> (((6 : Int32) &&& 31).toUInt32.toBitVec % 32)).toNat = _
  rw [BitVec.ushiftRight_eq']
  show (p.toBitVec >>> 6).toNat = _
  rw [BitVec.toNat_ushiftRight, Nat.shiftRight_eq_div_pow]; rfl
theorem own_ixc (p : Int32) (h : own_nn p < 256) : (own_ix p).toNatClampNeg = own_nn p / 64 := by
  have := own_nat _ _ (own_ixn p) (by omega)
  show (own_ix p).toInt.toNat = _; rw [this]; rfl
theorem own_ixin (p : Int32) (h : own_nn p < 256) : ¬ own_ix p < 0 ∧ own_ix p < 4 := by
  have := own_nat _ _ (own_ixn p) (by omega)
  rw [Int32.lt_iff_toInt_lt, Int32.lt_iff_toInt_lt, this]
  constructor
  · show ¬ (((own_nn p / 64 : Nat) : Int) < 0); omega
  · show (((own_nn p / 64 : Nat) : Int) < 4); omega
theorem own_lo (p : Int32) : (p &&& 0x3f).toInt64.toBitVec.toNat = own_nn p % 64 := by
  have h : (p &&& 0x3f).toBitVec.toNat = own_nn p % 64 := by
    rw [Int32.toBitVec_and, BitVec.toNat_and]; exact Nat.and_two_pow_sub_one_eq_mod _ 6
  have h2 := own_nat _ _ h (by omega)
  have h3 : (p &&& 0x3f).toInt64.toInt = ((own_nn p % 64 : Nat) : Int) := by rw [Int32.toInt_toInt64, h2]
  have h4 : (p &&& 0x3f).toInt64.toBitVec.toInt = ((own_nn p % 64 : Nat) : Int) := h3
  rw [BitVec.toInt_eq_toNat_cond] at h4
  split at h4 <;> omega
theorem own_sh (p : Int32) : ((1 : Int64) <<< (p &&& 0x3f).toInt64).toBitVec = (1 : BitVec 64) <<< (own_nn p % 64) := by
  rw [Int64.toBitVec_shiftLeft]
  show (1 : BitVec 64) <<< ((p &&& 0x3f).toInt64.toBitVec.smod 64) = _
  have : ((p &&& 0x3f).toInt64.toBitVec.smod 64).toNat = own_nn p % 64 := by
    have h := own_lo p
    have m1 : (p &&& 0x3f).toInt64.toBitVec.msb = false := by rw [BitVec.msb_eq_false_iff_two_mul_lt]; omega
    rw [BitVec.smod_eq, m1]; show ((p &&& 0x3f).toInt64.toBitVec % 64).toNat = _; rw [BitVec.toNat_umod]; show (p &&& 0x3f).toInt64.toBitVec.toNat % 64 = _; omega
  rw [BitVec.shiftLeft_eq', this]
theorem own_one (a b : Nat) (h : b < 64) : ((1 : BitVec 64) <<< a).getLsbD b = decide (b = a) := by
  rw [BitVec.getLsbD_shiftLeft]
  have e : (1 : BitVec 64).getLsbD (b - a) = decide (b - a = 0) := by show (1#64).getLsbD _ = _; rw [BitVec.getLsbD_one]; simp
  rw [e]
  by_cases q : b = a
  · subst q; simp [h]
  · by_cases r : b < a
    · simp [r, q]
    · have : ¬ b - a = 0 := by omega
      simp [this, q]
theorem own_mem_add (w : Nat → Int64) (p q : Int32) (hp : own_nn p < 256) (hq : own_nn q < 256) : own_mem (own_add w q) p = (own_mem w p || decide (p = q)) := by
  have key : p = q ↔ own_nn p = own_nn q := ⟨fun h => by rw [h], fun h => Int32.toBitVec_inj.mp (BitVec.eq_of_toNat_eq h)⟩
  unfold own_mem own_add
  rw [own_ixc q hq]
  by_cases e : own_nn p / 64 = own_nn q / 64
  · rw [if_pos e, Int64.toBitVec_or, BitVec.getLsbD_or, own_sh, own_one _ _ (Nat.mod_lt _ (by decide))]
    congr 1
    rw [decide_eq_decide, key]; omega
  · rw [if_neg e]
    have : ¬ p = q := by rw [key]; intro h; rw [h] at e; exact e rfl
    simp [this]
theorem own_mem_neg (w : Nat → Int64) (p : Int32) : own_mem (fun i => w i ^^^ (-1 : Int64)) p = !own_mem w p := by
  unfold own_mem
  rw [Int64.toBitVec_xor, BitVec.getLsbD_xor]
  have : (-1 : Int64).toBitVec = BitVec.allOnes 64 := by decide
  rw [this, BitVec.getLsbD_allOnes]
  have h : own_nn p % 64 < 64 := Nat.mod_lt _ (by decide)
  simp [h]
theorem own_mem_or (w w' : Nat → Int64) (p : Int32) : own_mem (fun i => w i ||| w' i) p = (own_mem w p || own_mem w' p) := by
  unfold own_mem; rw [Int64.toBitVec_or, BitVec.getLsbD_or]
theorem own_mem_zero (p : Int32) : own_mem (fun _ => 0) p = false := by
  unfold own_mem; show (0#64).getLsbD _ = false; simp
theorem own_got (x : Int64) (p : Int32) : ((x.toUInt64 >>> ((p &&& (63 : Int32)) &&& 0x3f).toInt64.toUInt64).toInt64 &&& (1 : Int64)) = 0 ↔ x.toBitVec.getLsbD (own_nn p % 64) = false := by
  have e0 : ((p &&& (63 : Int32)) &&& 0x3f) = (p &&& 0x3f) := by rw [Int32.and_assoc]; rfl
  rw [e0]
  have h1 : ((x.toUInt64 >>> (p &&& 0x3f).toInt64.toUInt64).toInt64).toBitVec = x.toBitVec >>> (own_nn p % 64) := by
    show (x.toUInt64 >>> _).toBitVec = _
    rw [UInt64.toBitVec_shiftRight]
    have : ((p &&& 0x3f).toInt64.toUInt64.toBitVec % 64).toNat = own_nn p % 64 := by
      rw [BitVec.toNat_umod]; have h := own_lo p; show (p &&& 0x3f).toInt64.toBitVec.toNat % 64 = _; omega
    show x.toBitVec >>> ((p &&& 0x3f).toInt64.toUInt64.toBitVec % 64) = _
    rw [BitVec.ushiftRight_eq', this]
  rw [← Int64.toBitVec_inj, Int64.toBitVec_and, h1]
  have h2 : (1 : Int64).toBitVec = 1#64 := rfl
  have h3 : (0 : Int64).toBitVec = 0#64 := rfl
  rw [h2, h3]
  constructor
  · intro h
    have := congrArg (fun b => b.getLsbD 0) h
    simpa using this
  · intro h
    apply BitVec.eq_of_getLsbD_eq
    intro i hi
    rw [BitVec.getLsbD_and, BitVec.getLsbD_one, BitVec.getLsbD_ushiftRight]
    by_cases q : i = 0
    · subst q; simp [h]
    · simp [q]
theorem own_255 (x : Int32) : own_nn (x &&& 255) < 256 := by
  unfold own_nn; rw [Int32.toBitVec_and, BitVec.toNat_and]; exact Nat.lt_of_le_of_lt Nat.and_le_right (by decide)
def own_L (w : Nat → Int64) : Nat → Value := fun i => .long (w i)
def own_cp (w : Nat → Int64) (p : Int32) (f : Nat → Value) : Nat → Value := fun i => if p.toNatClampNeg ≤ i ∧ i < p.toNatClampNeg + (4 : Int32).toNatClampNeg then own_L w ((0 : Int32).toNatClampNeg + (i - p.toNatClampNeg)) else f i
def own_out (w w' : Nat → Int64) : Nat → Value := fun i => if i < 4 then .long (w i) else .long (w' (i - 4))
theorem own_upd_add (w : Nat → Int64) (p : Int32) (i : Nat) : own_upd (own_L w) (own_ix p).toNatClampNeg (.long (w (own_ix p).toNatClampNeg ||| ((1 : Int64) <<< (p &&& 0x3f).toInt64))) i = own_L (own_add w p) i := by
  unfold own_upd own_L own_add
  by_cases q : i = (own_ix p).toNatClampNeg
  · rw [if_pos q]; simp only [if_pos q]; rw [q]
  · rw [if_neg q]; simp only [if_neg q]
theorem own_cp2 (w w' : Nat → Int64) (i : Nat) (hi : i < (8 : Int32).toNatClampNeg) : own_cp w' 4 (own_cp w 0 (fun _ => .long (0 : Int64))) i = own_out w w' i := by
  have e0 : (0 : Int32).toNatClampNeg = 0 := rfl
  have e4 : (4 : Int32).toNatClampNeg = 4 := rfl
  have e8 : (8 : Int32).toNatClampNeg = 8 := rfl
  rw [e8] at hi
  unfold own_cp own_out own_L
  rw [e0, e4]
  by_cases q : i < 4
  · rw [if_neg (by omega), if_pos (by omega), if_pos q]; simp
  · rw [if_pos (by omega), if_neg q]; simp
theorem own_ixin8 (p : Int32) (h : own_nn p < 256) : ¬ own_ix p < 0 ∧ own_ix p < 8 := by
  have := own_nat _ _ (own_ixn p) (by omega)
  rw [Int32.lt_iff_toInt_lt, Int32.lt_iff_toInt_lt, this]
  constructor
  · show ¬ (((own_nn p / 64 : Nat) : Int) < 0); omega
  · show (((own_nn p / 64 : Nat) : Int) < 8); omega
theorem own_ix4 (p : Int32) (h : own_nn p < 256) : ((4 : Int32) + own_ix p).toInt = ((4 + own_nn p / 64 : Nat) : Int) := by
  have := own_nat _ _ (own_ixn p) (by omega)
  rw [XT.add32 (by rw [this]; show XT.fits32 (4 + ((own_nn p / 64 : Nat) : Int)); unfold XT.fits32; omega), this]; show (4 : Int) + _ = _; omega
theorem own_ixin84 (p : Int32) (h : own_nn p < 256) : ¬ (4 : Int32) + own_ix p < 0 ∧ (4 : Int32) + own_ix p < 8 := by
  have := own_ix4 p h
  rw [Int32.lt_iff_toInt_lt, Int32.lt_iff_toInt_lt, this]
  constructor
  · show ¬ (((4 + own_nn p / 64 : Nat) : Int) < 0); omega
  · show (((4 + own_nn p / 64 : Nat) : Int) < 8); omega
theorem own_rd1 (w w' : Nat → Int64) (p : Int32) (h : own_nn p < 256) : own_out w w' (own_ix p).toNatClampNeg = .long (w (own_nn p / 64)) := by
  rw [own_ixc p h]; unfold own_out; rw [if_pos (by omega)]
theorem own_rd2 (w w' : Nat → Int64) (p : Int32) (h : own_nn p < 256) : own_out w w' ((4 : Int32) + own_ix p).toNatClampNeg = .long (w' (own_nn p / 64)) := by
  have e : ((4 : Int32) + own_ix p).toNatClampNeg = 4 + own_nn p / 64 := by show ((4 : Int32) + own_ix p).toInt.toNat = _; rw [own_ix4 p h]; rfl
  rw [e]; unfold own_out; rw [if_neg (by omega)]; congr 2; omega
theorem own_in {pp r1 r2 vn t v c : Int32} {w : Nat → Int64} (h0 : vn = (if c = 0 then (0 : Int32) else (1 : Int32))) (ht : t = (if pp = r1 then (1 : Int32) else (if pp = r2 then (1 : Int32) else (0 : Int32)))) (hv : v = (if t = vn then (0 : Int32) else (1 : Int32))) (hm : own_mem w pp = ((decide (pp = r1) || decide (pp = r2)) != !decide (vn = 0))) : v = if own_mem w pp = true then 1 else 0 := by
  rw [hm, hv, ht, h0]
  by_cases q1 : c = 0 <;> by_cases q2 : pp = r1 <;> by_cases q3 : pp = r2 <;> simp [q1, q2, q3]
theorem own_gv {w : Nat → Int64} {pp v : Int32} (h : v = (if (((w (own_nn pp / 64)).toUInt64 >>> ((pp &&& (63 : Int32)) &&& 0x3f).toInt64.toUInt64).toInt64 &&& (1 : Int64)) = (0 : Int64) then (0 : Int32) else (1 : Int32))) : v = if own_mem w pp = true then 1 else 0 := by
  have q := own_got (w (own_nn pp / 64)) pp
  rw [h]
  by_cases e : own_mem w pp = true
  · rw [if_pos e, if_neg]; intro z; have := q.mp z; unfold own_mem at e; rw [this] at e; cases e
  · rw [if_neg e, if_pos]; exact q.mpr (by unfold own_mem at e; simpa using e)
theorem own_end1 {wA wB wC : Nat → Int64} {pp v17 v18 v19 v21 vs : Int32} (h17 : v17 = if own_mem wA pp = true then 1 else 0) (h18 : v18 = if own_mem wB pp = true then 1 else 0) (h19 : v19 = if own_mem wC pp = true then 1 else 0)
    (h21 : v21 = (if v17 = 0 then (if vs = 0 then (if v18 = 0 then (0 : Int32) else (1 : Int32)) else (0 : Int32)) else (1 : Int32))) (hC : own_mem wC pp = (own_mem wA pp || (decide (vs = 0) && own_mem wB pp))) : v19 = v21 := by
  rw [h19, h21, h17, h18, hC]
  cases own_mem wA pp <;> cases own_mem wB pp <;> by_cases q : vs = 0 <;> simp [q]
theorem own_end2 {wB : Nat → Int64} {pp v18 v20 : Int32} (h18 : v18 = if own_mem wB pp = true then 1 else 0) (h20 : v20 = if own_mem wB pp = true then 1 else 0) : v20 = v18 := by rw [h18, h20]
theorem own_hA0 {pp r1 r2 vn : Int32} (h : vn = 0) (hp : own_nn pp < 256) (h1 : own_nn r1 < 256) (h2 : own_nn r2 < 256) : own_mem (own_add (own_add (fun _ => 0) r1) r2) pp = ((decide (pp = r1) || decide (pp = r2)) != !decide (vn = 0)) := by
  rw [own_mem_add _ _ _ hp h2, own_mem_add _ _ _ hp h1, own_mem_zero]; simp [h]
theorem own_hA1 {pp r1 r2 vn : Int32} (h : ¬ vn = 0) (hp : own_nn pp < 256) (h1 : own_nn r1 < 256) (h2 : own_nn r2 < 256) : own_mem (fun i => own_add (own_add (fun _ => 0) r1) r2 i ^^^ (-1 : Int64)) pp = ((decide (pp = r1) || decide (pp = r2)) != !decide (vn = 0)) := by
  rw [own_mem_neg, own_mem_add _ _ _ hp h2, own_mem_add _ _ _ hp h1, own_mem_zero]; simp [h]
theorem own_hC0 {wA wB : Nat → Int64} {pp vs : Int32} (h : vs = 0) : own_mem (fun i => wA i ||| wB i) pp = (own_mem wA pp || (decide (vs = 0) && own_mem wB pp)) := by
  rw [own_mem_or]; simp [h]
theorem own_hC1 {wA wB : Nat → Int64} {pp vs : Int32} (h : ¬ vs = 0) : own_mem wA pp = (own_mem wA pp || (decide (vs = 0) && own_mem wB pp)) := by simp [h]

theorem own_d_prog_22_method_1_code_0 : decode prog_22_method_1_code 0 = .ok (.aload_n 0, 1) := by decide +kernel
theorem own_d_prog_22_method_1_code_1 : decode prog_22_method_1_code 1 = .ok (.invokespecial 1, 3) := by decide +kernel
theorem own_d_prog_22_method_1_code_4 : decode prog_22_method_1_code 4 = .ok (.aload_n 0, 1) := by decide +kernel
theorem own_d_prog_22_method_1_code_5 : decode prog_22_method_1_code 5 = .ok (.iconst 4, 1) := by decide +kernel
theorem own_d_prog_22_method_1_code_6 : decode prog_22_method_1_code 6 = .ok (.newarray .long, 2) := by decide +kernel
theorem own_d_prog_22_method_1_code_8 : decode prog_22_method_1_code 8 = .ok (.putfield 7, 3) := by decide +kernel
theorem own_d_prog_22_method_1_code_11 : decode prog_22_method_1_code 11 = .ok (.return_, 1) := by decide +kernel
theorem own_pn0 : plainName "com/example/locator/locator/ByteSet" = true := by first | (simp [plainName, overriddenIn]; done) | decide +kernel
theorem own_ef_rm1 (m : MethodId) (x0 : Addr) : entryFrame m #[(.ref x0)] 1 = mkF m 0 #[.val (.ref x0)] [] := by first | (simp [entryFrame, mkF, argsToLocals, Value.category]; done) | rfl
def own_Q_rm1 (Z : State) (a1 : Addr) (h0 : Heap) (n0 : Nat) (v : Option Value) (h : Heap) (L : List Loc) : Prop := v = none ∧ Fr n0 L ∧ Keep h0 h [a1] ∧ ∃ (b : Addr) (k : ClassId), h0.size ≤ b ∧ Fld Z h a1 "com/example/locator/locator/ByteSet" "words" "[J" (.ref b) ∧ Arf Z h b k .long 4 (own_L fun _ => 0)
set_option maxRecDepth 65536 in
set_option maxHeartbeats 40000000 in
theorem rm1 (l : Launch) (Z : State) (a0 : Array Value) (hw : ∀ d ∈ tables_1, d.before a0 Z = true) (ws : List Jvm.Cond) (a1 : Addr) (h0 : Heap) (n0 : Nat) (Z0 : n0 ≤ h0.size) (E_a1 : Exa Z h0 a1 "com/example/locator/locator/ByteSet") (F_words_a1 : Fld Z h0 a1 "com/example/locator/locator/ByteSet" "words" "[J" .null) (g_a1 : n0 ≤ a1) :
    OMet l Z (⟨"com/example/locator/locator/ByteSet", "<init>", "()V"⟩ : MethodName) prog_22_method_1_code 1 none ws ({ frames := 1, cells := 1, slots := 4, locals := 12 } : Room) #[(.ref a1)] h0 (own_Q_rm1 Z a1 h0 n0) := by
  refine MetFree.of_bodySF (plainFor_of_name own_pn0) hisR ?_
  intro p e s m args below meth c s₁ Bd hml0 hP hK
  obtain ⟨rfl, hZ, hh⟩ := hP
  have hx := Bd.exec
  have hby := Bd.bytes
  have hml : c.maxLocals = 1 := hml0
  have hown : s.vm.findClass "com/example/locator/locator/ByteSet" = some m.cls := findClass_of_methodNamed Bd.named
  have hnm := (name_of_methodNamed Bd.named Bd.method).1
  have hlk : meth.locks = false := Bd.notSynchronized
  have X0 : Stand p l e ({ frames := 1, cells := 1, slots := 4, locals := 12 } : Room) s m #[(.ref a1)] below meth c s₁ [] 0 0 := Stand.of_body Bd
  have e0 : s₁.heap = h0 := by rw [← hh, Bd.state]; rfl
  have N0 := Fr.nil n0
  refine OGo.enter (P := OPost s (own_Q_rm1 Z a1 h0 n0) 1 4) (own_ef_rm1 m a1) ?_
  show OGo p.tables e below _ (s₁.setTop (mkF m 0 #[.val (.ref a1)] []))
  refine OGo.st (fun _ k_ => XS.aloadN X0.here hx rfl (hb hby own_d_prog_22_method_1_code_0) rfl rfl k_) ?_
  show OGo p.tables e below _ (s₁.setTop (mkF m 1 #[.val (.ref a1)] [(.ref a1)]))
  obtain ⟨T1, X1, ez1, st1⟩ := initO X0 hx hZ hown (hw _ (List.mem_of_getElem? (i := 6) rfl)) (hw _ (List.mem_of_getElem? (i := 7) rfl)) (hw _ (List.mem_of_getElem? (i := 8) rfl)) e0 (g := (mkF m 1 #[.val (.ref a1)] [(.ref a1)])) rfl (by rw [hml]; rfl) rfl (hb hby own_d_prog_22_method_1_code_1) (by decide) (W := 0) (by show 2 * 0 + _ ≤ _; exact Nat.le_of_eq rfl) (by decide)
  refine OGo.st st1 ?_
  show OGo p.tables e below _ (T1.setTop (mkF m 4 #[.val (.ref a1)] []))
  refine OGo.st (fun _ k_ => XS.aloadN X1.here hx rfl (hb hby own_d_prog_22_method_1_code_4) rfl rfl k_) ?_
  show OGo p.tables e below _ (T1.setTop (mkF m 5 #[.val (.ref a1)] [(.ref a1)]))
  refine OGo.st (fun _ k_ => XS.iconst X1.here hx rfl (hb hby own_d_prog_22_method_1_code_5) k_) ?_
  show OGo p.tables e below _ (T1.setTop (mkF m 6 #[.val (.ref a1)] [(.int (4 : Int32)), (.ref a1)]))
  obtain ⟨T2, hz2, kz2, X2, ez2, Ez2, Az2, st2⟩ := newP X1 hx hZ (hw _ (List.mem_of_getElem? (i := 9) rfl)) ez1 (g := (mkF m 6 #[.val (.ref a1)] [(.int (4 : Int32)), (.ref a1)])) rfl (hb hby own_d_prog_22_method_1_code_6) rfl (by decide) (cap := 4) (by decide) (by decide) (by decide) (by decide)
  obtain ⟨bz2, g2⟩ : ∃ z, z = h0.size := ⟨_, rfl⟩
  rw [← g2] at Az2 st2
  have lt_a1_bz2 : a1 < bz2 := Nat.lt_of_lt_of_le E_a1.lt (Nat.le_of_eq g2.symm)
  have g_bz2 : n0 ≤ bz2 := Nat.le_trans (Nat.le_trans Z0 (Keep.refl h0 [a1]).1) (Nat.le_of_eq g2.symm)
  have sz_bz2 : h0.size ≤ bz2 := Nat.le_trans (Keep.refl h0 [a1]).1 (Nat.le_of_eq g2.symm)
  have Ex_3 := E_a1.ext Ez2
  have F_4 := F_words_a1.ext Ez2
  have K_5 : Keep h0 hz2 [a1] := (Keep.refl h0 [a1]).ext Ez2
  have V_bz2 : Arf Z hz2 bz2 kz2 .long (4 : Int32) (fun _ => (.long (0 : Int64))) := own_new Az2 (by decide)
  refine OGo.st st2 ?_
  show OGo p.tables e below _ (T2.setTop (mkF m 8 #[.val (.ref a1)] [(.ref bz2), (.ref a1)]))
  obtain ⟨T6, hz6, X6, ez6, W6, st6⟩ := putF X2 hx hZ hown (host := "") (Or.inl (hw _ (List.mem_of_getElem? (i := 10) rfl))) Via.refl ez2 F_4 Ex_3 (Or.inr ⟨(hw _ (List.mem_of_getElem? (i := 11) rfl)), rfl, hnm⟩) (hw _ (List.mem_of_getElem? (i := 1) rfl)) (ty := (.array .long)) (by decide) rfl rfl (g := (mkF m 8 #[.val (.ref a1)] [(.ref bz2), (.ref a1)])) rfl rfl (hb hby own_d_prog_22_method_1_code_8)
  have Fw6 : Fld Z hz6 a1 "com/example/locator/locator/ByteSet" "words" "[J" (.ref bz2) := F_4.same W6
  have Ex_7 := Ex_3.wr W6
  have Af_8 := V_bz2.other W6 (Ne.symm (Nat.ne_of_lt lt_a1_bz2))
  have N6 := Fr.snoc X6 N0 g_a1
  have K_9 : Keep h0 hz6 [a1] := K_5.wr W6 (Or.inl (List.mem_of_getElem? (i := 0) rfl))
  refine OGo.st st6 ?_
  show OGo p.tables e below _ (T6.setTop (mkF m 11 #[.val (.ref a1)] []))
  refine OGo.fin X6 (v := none) (fun _ => rfl) hlk (fun fs hr => X6.returnOut hx Bd.returns (hb hby own_d_prog_22_method_1_code_11) hr) ?_ (by decide) (by decide)
  show own_Q_rm1 Z a1 h0 n0 _ T6.heap _
  rw [ez6]
  exact ⟨rfl, N6, K_9, bz2, kz2, sz_bz2, Fw6, Af_8⟩
theorem own_d_prog_22_method_6_code_0 : decode prog_22_method_6_code 0 = .ok (.aload_n 0, 1) := by decide +kernel
theorem own_d_prog_22_method_6_code_1 : decode prog_22_method_6_code 1 = .ok (.getfield 7, 3) := by decide +kernel
theorem own_d_prog_22_method_6_code_4 : decode prog_22_method_6_code 4 = .ok (.iload_n 1, 1) := by decide +kernel
theorem own_d_prog_22_method_6_code_5 : decode prog_22_method_6_code 5 = .ok (.bipush 6, 2) := by decide +kernel
theorem own_d_prog_22_method_6_code_7 : decode prog_22_method_6_code 7 = .ok (.iushr, 1) := by decide +kernel
theorem own_d_prog_22_method_6_code_8 : decode prog_22_method_6_code 8 = .ok (.dup2, 1) := by decide +kernel
theorem own_d_prog_22_method_6_code_9 : decode prog_22_method_6_code 9 = .ok (.laload, 1) := by decide +kernel
theorem own_d_prog_22_method_6_code_10 : decode prog_22_method_6_code 10 = .ok (.lconst 1, 1) := by decide +kernel
theorem own_d_prog_22_method_6_code_11 : decode prog_22_method_6_code 11 = .ok (.iload_n 1, 1) := by decide +kernel
theorem own_d_prog_22_method_6_code_12 : decode prog_22_method_6_code 12 = .ok (.lshl, 1) := by decide +kernel
theorem own_d_prog_22_method_6_code_13 : decode prog_22_method_6_code 13 = .ok (.lor, 1) := by decide +kernel
theorem own_d_prog_22_method_6_code_14 : decode prog_22_method_6_code 14 = .ok (.lastore, 1) := by decide +kernel
theorem own_d_prog_22_method_6_code_15 : decode prog_22_method_6_code 15 = .ok (.return_, 1) := by decide +kernel
theorem own_ef_rm2 (m : MethodId) (x0 : Addr) (x1 : Int32) : entryFrame m #[(.ref x0), (.int x1)] 2 = mkF m 0 #[.val (.ref x0), .val (.int x1)] [] := by first | (simp [entryFrame, mkF, argsToLocals, Value.category]; done) | rfl
def own_Q_rm2 (Z : State) (a1 : Addr) (p2 : Int32) (b1 : Addr) (k1 : ClassId) (w : Nat → Int64) (h0 : Heap) (n0 : Nat) (v : Option Value) (h : Heap) (L : List Loc) : Prop := v = none ∧ Fr n0 L ∧ Keep h0 h [b1] ∧ Arf Z h b1 k1 .long 4 (own_L (own_add w p2))
set_option maxRecDepth 65536 in
set_option maxHeartbeats 40000000 in
theorem rm2 (l : Launch) (Z : State) (a0 : Array Value) (hw : ∀ d ∈ tables_1, d.before a0 Z = true) (ws : List Jvm.Cond) (a1 : Addr) (p2 : Int32) (b1 : Addr) (k1 : ClassId) (w : Nat → Int64) (h0 : Heap) (n0 : Nat) (Z0 : n0 ≤ h0.size) (F_words_a1 : Fld Z h0 a1 "com/example/locator/locator/ByteSet" "words" "[J" (.ref b1)) (A_b1 : Arf Z h0 b1 k1 .long 4 (own_L w)) (g_b1 : n0 ≤ b1) (ne_a1_b1 : a1 ≠ b1) (hp : own_nn p2 < 256) :
    OMet l Z (⟨"com/example/locator/locator/ByteSet", "add", "(I)V"⟩ : MethodName) prog_22_method_6_code 2 none ws ({ frames := 0, cells := 0, slots := 0, locals := 0 } : Room) #[(.ref a1), (.int p2)] h0 (own_Q_rm2 Z a1 p2 b1 k1 w h0 n0) := by
  refine MetFree.of_bodySF (plainFor_of_name own_pn0) hisR ?_
  intro p e s m args below meth c s₁ Bd hml0 hP hK
  obtain ⟨rfl, hZ, hh⟩ := hP
  have hx := Bd.exec
  have hby := Bd.bytes
  have hml : c.maxLocals = 2 := hml0
  have hown : s.vm.findClass "com/example/locator/locator/ByteSet" = some m.cls := findClass_of_methodNamed Bd.named
  have hnm := (name_of_methodNamed Bd.named Bd.method).1
  have hlk : meth.locks = false := Bd.notSynchronized
  have X0 : Stand p l e ({ frames := 0, cells := 0, slots := 0, locals := 0 } : Room) s m #[(.ref a1), (.int p2)] below meth c s₁ [] 0 0 := Stand.of_body Bd
  have e0 : s₁.heap = h0 := by rw [← hh, Bd.state]; rfl
  have N0 := Fr.nil n0
  refine OGo.enter (P := OPost s (own_Q_rm2 Z a1 p2 b1 k1 w h0 n0) 0 0) (own_ef_rm2 m a1 p2) ?_
  show OGo p.tables e below _ (s₁.setTop (mkF m 0 #[.val (.ref a1), .val (.int p2)] []))
  refine OGo.st (fun _ k_ => XS.aloadN X0.here hx rfl (hb hby own_d_prog_22_method_6_code_0) rfl rfl k_) ?_
  show OGo p.tables e below _ (s₁.setTop (mkF m 1 #[.val (.ref a1), .val (.int p2)] [(.ref a1)]))
  obtain ⟨T1, X1, ez1, st1⟩ := getF X0 hx hZ hown (host := "") (Or.inl (hw _ (List.mem_of_getElem? (i := 10) rfl))) Via.refl e0 F_words_a1 (g := (mkF m 1 #[.val (.ref a1), .val (.int p2)] [(.ref a1)])) rfl rfl (hb hby own_d_prog_22_method_6_code_1)
  refine OGo.st st1 ?_
  show OGo p.tables e below _ (T1.setTop (mkF m 4 #[.val (.ref a1), .val (.int p2)] [(.ref b1)]))
  refine OGo.st (fun _ k_ => XS.iloadN X1.here hx rfl (hb hby own_d_prog_22_method_6_code_4) rfl k_) ?_
  show OGo p.tables e below _ (T1.setTop (mkF m 5 #[.val (.ref a1), .val (.int p2)] [(.int p2), (.ref b1)]))
  refine OGo.st (fun _ k_ => XS.bipush X1.here hx rfl (hb hby own_d_prog_22_method_6_code_5) k_) ?_
  show OGo p.tables e below _ (T1.setTop (mkF m 7 #[.val (.ref a1), .val (.int p2)] [(.int (6 : Int32)), (.int p2), (.ref b1)]))
  refine OGo.st (fun _ k_ => XS.iushr X1.here hx rfl (hb hby own_d_prog_22_method_6_code_7) rfl k_) ?_
  show OGo p.tables e below _ (T1.setTop (mkF m 8 #[.val (.ref a1), .val (.int p2)] [(.int ((p2.toUInt32 >>> ((6 : Int32) &&& 31).toUInt32).toInt32)), (.ref b1)]))
  refine OGo.st (fun _ k_ => XT.dup2 X1.here hx rfl (hb hby own_d_prog_22_method_6_code_8) rfl rfl rfl k_) ?_
  show OGo p.tables e below _ (T1.setTop (mkF m 9 #[.val (.ref a1), .val (.int p2)] [(.int ((p2.toUInt32 >>> ((6 : Int32) &&& 31).toUInt32).toInt32)), (.ref b1), (.int ((p2.toUInt32 >>> ((6 : Int32) &&& 31).toUInt32).toInt32)), (.ref b1)]))
  have qz2 := own_ldJ X1 hx hZ ez1 A_b1 (j := ((p2.toUInt32 >>> ((6 : Int32) &&& 31).toUInt32).toInt32)) (v := (w (own_ix p2).toNatClampNeg)) (own_ixin p2 hp) rfl (g := (mkF m 9 #[.val (.ref a1), .val (.int p2)] [(.int ((p2.toUInt32 >>> ((6 : Int32) &&& 31).toUInt32).toInt32)), (.ref b1), (.int ((p2.toUInt32 >>> ((6 : Int32) &&& 31).toUInt32).toInt32)), (.ref b1)])) rfl rfl (hb hby own_d_prog_22_method_6_code_9)
  refine OGo.st qz2 ?_
  show OGo p.tables e below _ (T1.setTop (mkF m 10 #[.val (.ref a1), .val (.int p2)] [(.long (w (own_ix p2).toNatClampNeg)), (.int ((p2.toUInt32 >>> ((6 : Int32) &&& 31).toUInt32).toInt32)), (.ref b1)]))
  refine OGo.st (fun _ k_ => XS.lconst X1.here hx rfl (hb hby own_d_prog_22_method_6_code_10) k_) ?_
  show OGo p.tables e below _ (T1.setTop (mkF m 11 #[.val (.ref a1), .val (.int p2)] [(.long (1 : Int64)), (.long (w (own_ix p2).toNatClampNeg)), (.int ((p2.toUInt32 >>> ((6 : Int32) &&& 31).toUInt32).toInt32)), (.ref b1)]))
  refine OGo.st (fun _ k_ => XS.iloadN X1.here hx rfl (hb hby own_d_prog_22_method_6_code_11) rfl k_) ?_
  show OGo p.tables e below _ (T1.setTop (mkF m 12 #[.val (.ref a1), .val (.int p2)] [(.int p2), (.long (1 : Int64)), (.long (w (own_ix p2).toNatClampNeg)), (.int ((p2.toUInt32 >>> ((6 : Int32) &&& 31).toUInt32).toInt32)), (.ref b1)]))
  refine OGo.st (fun _ k_ => XS.lshl X1.here hx rfl (hb hby own_d_prog_22_method_6_code_12) rfl k_) ?_
  show OGo p.tables e below _ (T1.setTop (mkF m 13 #[.val (.ref a1), .val (.int p2)] [(.long ((1 : Int64) <<< (p2 &&& 0x3f).toInt64)), (.long (w (own_ix p2).toNatClampNeg)), (.int ((p2.toUInt32 >>> ((6 : Int32) &&& 31).toUInt32).toInt32)), (.ref b1)]))
  refine OGo.st (fun _ k_ => XS.lor X1.here hx rfl (hb hby own_d_prog_22_method_6_code_13) rfl k_) ?_
  show OGo p.tables e below _ (T1.setTop (mkF m 14 #[.val (.ref a1), .val (.int p2)] [(.long ((w (own_ix p2).toNatClampNeg) ||| ((1 : Int64) <<< (p2 &&& 0x3f).toInt64))), (.int ((p2.toUInt32 >>> ((6 : Int32) &&& 31).toUInt32).toInt32)), (.ref b1)]))
  obtain ⟨T3, hz3, X3, ez3, W3, V3, st3⟩ := own_stJ X1 hx hZ ez1 A_b1 (j := ((p2.toUInt32 >>> ((6 : Int32) &&& 31).toUInt32).toInt32)) (own_ixin p2 hp)  (g := (mkF m 14 #[.val (.ref a1), .val (.int p2)] [(.long ((w (own_ix p2).toNatClampNeg) ||| ((1 : Int64) <<< (p2 &&& 0x3f).toInt64))), (.int ((p2.toUInt32 >>> ((6 : Int32) &&& 31).toUInt32).toInt32)), (.ref b1)])) rfl rfl (hb hby own_d_prog_22_method_6_code_14)
  have F_4 := F_words_a1.other W3 (Or.inl ne_a1_b1)
  have N3 := Fr.snoc X3 N0 g_b1
  have K_5 : Keep h0 hz3 [b1] := (Keep.refl h0 [b1]).wr W3 (Or.inl (List.mem_of_getElem? (i := 0) rfl))
  refine OGo.st st3 ?_
  have Af_6 : Arf Z hz3 b1 k1 .long 4 (own_L (own_add w p2)) := V3.congr (fun i _ => own_upd_add w p2 i)
  show OGo p.tables e below _ (T3.setTop (mkF m 15 #[.val (.ref a1), .val (.int p2)] []))
  refine OGo.fin X3 (v := none) (fun _ => rfl) hlk (fun fs hr => X3.returnOut hx Bd.returns (hb hby own_d_prog_22_method_6_code_15) hr) ?_ (by decide) (by decide)
  show own_Q_rm2 Z a1 p2 b1 k1 w h0 n0 _ T3.heap _
  rw [ez3]
  exact ⟨rfl, N3, K_5, Af_6⟩
theorem own_d_prog_22_method_9_code_0 : decode prog_22_method_9_code 0 = .ok (.iconst 0, 1) := by decide +kernel
theorem own_d_prog_22_method_9_code_1 : decode prog_22_method_9_code 1 = .ok (.istore_n 1, 1) := by decide +kernel
theorem own_d_prog_22_method_9_code_2 : decode prog_22_method_9_code 2 = .ok (.iload_n 1, 1) := by decide +kernel
theorem own_d_prog_22_method_9_code_3 : decode prog_22_method_9_code 3 = .ok (.aload_n 0, 1) := by decide +kernel
theorem own_d_prog_22_method_9_code_4 : decode prog_22_method_9_code 4 = .ok (.getfield 7, 3) := by decide +kernel
theorem own_d_prog_22_method_9_code_7 : decode prog_22_method_9_code 7 = .ok (.arraylength, 1) := by decide +kernel
theorem own_d_prog_22_method_9_code_8 : decode prog_22_method_9_code 8 = .ok (.if_icmp .ge 25, 3) := by decide +kernel
theorem own_d_prog_22_method_9_code_11 : decode prog_22_method_9_code 11 = .ok (.aload_n 0, 1) := by decide +kernel
theorem own_d_prog_22_method_9_code_12 : decode prog_22_method_9_code 12 = .ok (.getfield 7, 3) := by decide +kernel
theorem own_d_prog_22_method_9_code_15 : decode prog_22_method_9_code 15 = .ok (.iload_n 1, 1) := by decide +kernel
theorem own_d_prog_22_method_9_code_16 : decode prog_22_method_9_code 16 = .ok (.aload_n 0, 1) := by decide +kernel
theorem own_d_prog_22_method_9_code_17 : decode prog_22_method_9_code 17 = .ok (.getfield 7, 3) := by decide +kernel
theorem own_d_prog_22_method_9_code_20 : decode prog_22_method_9_code 20 = .ok (.iload_n 1, 1) := by decide +kernel
theorem own_d_prog_22_method_9_code_21 : decode prog_22_method_9_code 21 = .ok (.laload, 1) := by decide +kernel
theorem own_d_prog_22_method_9_code_22 : decode prog_22_method_9_code 22 = .ok (.ldc2_w 62, 3) := by decide +kernel
theorem own_d_prog_22_method_9_code_25 : decode prog_22_method_9_code 25 = .ok (.lxor, 1) := by decide +kernel
theorem own_d_prog_22_method_9_code_26 : decode prog_22_method_9_code 26 = .ok (.lastore, 1) := by decide +kernel
theorem own_d_prog_22_method_9_code_27 : decode prog_22_method_9_code 27 = .ok (.iinc 1 1, 3) := by decide +kernel
theorem own_d_prog_22_method_9_code_30 : decode prog_22_method_9_code 30 = .ok (.goto (-28), 3) := by decide +kernel
theorem own_d_prog_22_method_9_code_33 : decode prog_22_method_9_code 33 = .ok (.return_, 1) := by decide +kernel
theorem own_ef_rm3 (m : MethodId) (x0 : Addr) : entryFrame m #[(.ref x0)] 2 = mkF m 0 #[.val (.ref x0), .unset] [] := by first | (simp [entryFrame, mkF, argsToLocals, Value.category]; done) | rfl
def own_Q_rm3 (Z : State) (a1 : Addr) (b1 : Addr) (k1 : ClassId) (w : Nat → Int64) (h0 : Heap) (n0 : Nat) (v : Option Value) (h : Heap) (L : List Loc) : Prop := v = none ∧ Fr n0 L ∧ Keep h0 h [b1] ∧ Arf Z h b1 k1 .long 4 (own_L (fun i => w i ^^^ (-1 : Int64)))
set_option maxRecDepth 65536 in
set_option maxHeartbeats 40000000 in
theorem rm3 (l : Launch) (Z : State) (a0 : Array Value) (hw : ∀ d ∈ tables_1, d.before a0 Z = true) (ws : List Jvm.Cond) (a1 : Addr) (b1 : Addr) (k1 : ClassId) (w : Nat → Int64) (h0 : Heap) (n0 : Nat) (Z0 : n0 ≤ h0.size) (F_words_a1 : Fld Z h0 a1 "com/example/locator/locator/ByteSet" "words" "[J" (.ref b1)) (A_b1 : Arf Z h0 b1 k1 .long 4 (own_L w)) (g_b1 : n0 ≤ b1) (ne_a1_b1 : a1 ≠ b1) :
    OMet l Z (⟨"com/example/locator/locator/ByteSet", "negate", "()V"⟩ : MethodName) prog_22_method_9_code 2 none ws ({ frames := 0, cells := 0, slots := 0, locals := 0 } : Room) #[(.ref a1)] h0 (own_Q_rm3 Z a1 b1 k1 w h0 n0) := by
  refine MetFree.of_bodySF (plainFor_of_name own_pn0) hisR ?_
  intro p e s m args below meth c s₁ Bd hml0 hP hK
  obtain ⟨rfl, hZ, hh⟩ := hP
  have hx := Bd.exec
  have hby := Bd.bytes
  have hml : c.maxLocals = 2 := hml0
  have hown : s.vm.findClass "com/example/locator/locator/ByteSet" = some m.cls := findClass_of_methodNamed Bd.named
  have hnm := (name_of_methodNamed Bd.named Bd.method).1
  have hlk : meth.locks = false := Bd.notSynchronized
  have X0 : Stand p l e ({ frames := 0, cells := 0, slots := 0, locals := 0 } : Room) s m #[(.ref a1)] below meth c s₁ [] 0 0 := Stand.of_body Bd
  have e0 : s₁.heap = h0 := by rw [← hh, Bd.state]; rfl
  have N0 := Fr.nil n0
  refine OGo.enter (P := OPost s (own_Q_rm3 Z a1 b1 k1 w h0 n0) 0 0) (own_ef_rm3 m a1) ?_
  show OGo p.tables e below _ (s₁.setTop (mkF m 0 #[.val (.ref a1), .unset] []))
  refine OGo.st (fun _ k_ => XS.iconst X0.here hx rfl (hb hby own_d_prog_22_method_9_code_0) k_) ?_
  show OGo p.tables e below _ (s₁.setTop (mkF m 1 #[.val (.ref a1), .unset] [(.int (0 : Int32))]))
  refine OGo.st (fun _ k_ => XS.istoreN X0.here hx rfl (hb hby own_d_prog_22_method_9_code_1) rfl (l' := #[.val (.ref a1), .val (.int (0 : Int32))]) rfl k_) ?_
  show OGo p.tables e below _ (s₁.setTop (mkF m 2 #[.val (.ref a1), .val (.int (0 : Int32))] []))
  refine OGo.st (fun _ k_ => XS.iloadN X0.here hx rfl (hb hby own_d_prog_22_method_9_code_2) rfl k_) ?_
  show OGo p.tables e below _ (s₁.setTop (mkF m 3 #[.val (.ref a1), .val (.int (0 : Int32))] [(.int (0 : Int32))]))
  refine OGo.st (fun _ k_ => XS.aloadN X0.here hx rfl (hb hby own_d_prog_22_method_9_code_3) rfl rfl k_) ?_
  show OGo p.tables e below _ (s₁.setTop (mkF m 4 #[.val (.ref a1), .val (.int (0 : Int32))] [(.ref a1), (.int (0 : Int32))]))
  obtain ⟨T1, X1, ez1, st1⟩ := getF X0 hx hZ hown (host := "") (Or.inl (hw _ (List.mem_of_getElem? (i := 10) rfl))) Via.refl e0 F_words_a1 (g := (mkF m 4 #[.val (.ref a1), .val (.int (0 : Int32))] [(.ref a1), (.int (0 : Int32))])) rfl rfl (hb hby own_d_prog_22_method_9_code_4)
  refine OGo.st st1 ?_
  show OGo p.tables e below _ (T1.setTop (mkF m 7 #[.val (.ref a1), .val (.int (0 : Int32))] [(.ref b1), (.int (0 : Int32))]))
  have qz2 := own_alen X1 hx hZ ez1 A_b1 (g := (mkF m 7 #[.val (.ref a1), .val (.int (0 : Int32))] [(.ref b1), (.int (0 : Int32))])) rfl rfl (hb hby own_d_prog_22_method_9_code_7)
  refine OGo.st qz2 ?_
  show OGo p.tables e below _ (T1.setTop (mkF m 8 #[.val (.ref a1), .val (.int (0 : Int32))] [(.int (4 : Int32)), (.int (0 : Int32))]))
  refine OGo.st (fun _ k_ => XS.icmpNo X1.here hx rfl (hb hby own_d_prog_22_method_9_code_8) rfl (XT.ii_ge_f (by decide)) k_) ?_
  show OGo p.tables e below _ (T1.setTop (mkF m 11 #[.val (.ref a1), .val (.int (0 : Int32))] []))
  refine OGo.st (fun _ k_ => XS.aloadN X1.here hx rfl (hb hby own_d_prog_22_method_9_code_11) rfl rfl k_) ?_
  show OGo p.tables e below _ (T1.setTop (mkF m 12 #[.val (.ref a1), .val (.int (0 : Int32))] [(.ref a1)]))
  obtain ⟨T3, X3, ez3, st3⟩ := getF X1 hx hZ hown (host := "") (Or.inl (hw _ (List.mem_of_getElem? (i := 10) rfl))) Via.refl ez1 F_words_a1 (g := (mkF m 12 #[.val (.ref a1), .val (.int (0 : Int32))] [(.ref a1)])) rfl rfl (hb hby own_d_prog_22_method_9_code_12)
  refine OGo.st st3 ?_
  show OGo p.tables e below _ (T3.setTop (mkF m 15 #[.val (.ref a1), .val (.int (0 : Int32))] [(.ref b1)]))
  refine OGo.st (fun _ k_ => XS.iloadN X3.here hx rfl (hb hby own_d_prog_22_method_9_code_15) rfl k_) ?_
  show OGo p.tables e below _ (T3.setTop (mkF m 16 #[.val (.ref a1), .val (.int (0 : Int32))] [(.int (0 : Int32)), (.ref b1)]))
  refine OGo.st (fun _ k_ => XS.aloadN X3.here hx rfl (hb hby own_d_prog_22_method_9_code_16) rfl rfl k_) ?_
  show OGo p.tables e below _ (T3.setTop (mkF m 17 #[.val (.ref a1), .val (.int (0 : Int32))] [(.ref a1), (.int (0 : Int32)), (.ref b1)]))
  obtain ⟨T4, X4, ez4, st4⟩ := getF X3 hx hZ hown (host := "") (Or.inl (hw _ (List.mem_of_getElem? (i := 10) rfl))) Via.refl ez3 F_words_a1 (g := (mkF m 17 #[.val (.ref a1), .val (.int (0 : Int32))] [(.ref a1), (.int (0 : Int32)), (.ref b1)])) rfl rfl (hb hby own_d_prog_22_method_9_code_17)
  refine OGo.st st4 ?_
  show OGo p.tables e below _ (T4.setTop (mkF m 20 #[.val (.ref a1), .val (.int (0 : Int32))] [(.ref b1), (.int (0 : Int32)), (.ref b1)]))
  refine OGo.st (fun _ k_ => XS.iloadN X4.here hx rfl (hb hby own_d_prog_22_method_9_code_20) rfl k_) ?_
  show OGo p.tables e below _ (T4.setTop (mkF m 21 #[.val (.ref a1), .val (.int (0 : Int32))] [(.int (0 : Int32)), (.ref b1), (.int (0 : Int32)), (.ref b1)]))
  have qz5 := own_ldJ X4 hx hZ ez4 A_b1 (j := (0 : Int32)) (v := (w 0)) (by decide) rfl (g := (mkF m 21 #[.val (.ref a1), .val (.int (0 : Int32))] [(.int (0 : Int32)), (.ref b1), (.int (0 : Int32)), (.ref b1)])) rfl rfl (hb hby own_d_prog_22_method_9_code_21)
  refine OGo.st qz5 ?_
  show OGo p.tables e below _ (T4.setTop (mkF m 22 #[.val (.ref a1), .val (.int (0 : Int32))] [(.long (w 0)), (.int (0 : Int32)), (.ref b1)]))
  refine OGo.st (fun _ k_ => X4.ldc2J hx hown (mvT hZ (hw _ (List.mem_of_getElem? (i := 22) rfl))) rfl (hb hby own_d_prog_22_method_9_code_22) k_) ?_
  show OGo p.tables e below _ (T4.setTop (mkF m 25 #[.val (.ref a1), .val (.int (0 : Int32))] [(.long (-1 : Int64)), (.long (w 0)), (.int (0 : Int32)), (.ref b1)]))
  refine OGo.st (fun _ k_ => XS.lxor X4.here hx rfl (hb hby own_d_prog_22_method_9_code_25) rfl k_) ?_
  show OGo p.tables e below _ (T4.setTop (mkF m 26 #[.val (.ref a1), .val (.int (0 : Int32))] [(.long ((w 0) ^^^ (-1 : Int64))), (.int (0 : Int32)), (.ref b1)]))
  obtain ⟨T6, hz6, X6, ez6, W6, V6, st6⟩ := own_stJ X4 hx hZ ez4 A_b1 (j := (0 : Int32)) (by decide)  (g := (mkF m 26 #[.val (.ref a1), .val (.int (0 : Int32))] [(.long ((w 0) ^^^ (-1 : Int64))), (.int (0 : Int32)), (.ref b1)])) rfl rfl (hb hby own_d_prog_22_method_9_code_26)
  have F_7 := F_words_a1.other W6 (Or.inl ne_a1_b1)
  have N6 := Fr.snoc X6 N0 g_b1
  have K_8 : Keep h0 hz6 [b1] := (Keep.refl h0 [b1]).wr W6 (Or.inl (List.mem_of_getElem? (i := 0) rfl))
  refine OGo.st st6 ?_
  show OGo p.tables e below _ (T6.setTop (mkF m 27 #[.val (.ref a1), .val (.int (0 : Int32))] []))
  refine OGo.st (fun _ k_ => XS.iinc X6.here hx rfl (hb hby own_d_prog_22_method_9_code_27) rfl (l' := #[.val (.ref a1), .val (.int (1 : Int32))]) rfl k_) ?_
  show OGo p.tables e below _ (T6.setTop (mkF m 30 #[.val (.ref a1), .val (.int (1 : Int32))] []))
  refine OGo.st (fun _ k_ => XS.goto X6.here hx rfl (pc0 := 30) (pc' := 2) rfl (hb hby own_d_prog_22_method_9_code_30) (by decide) (by decide) k_) ?_
  show OGo p.tables e below _ (T6.setTop (mkF m 2 #[.val (.ref a1), .val (.int (1 : Int32))] []))
  refine OGo.st (fun _ k_ => XS.iloadN X6.here hx rfl (hb hby own_d_prog_22_method_9_code_2) rfl k_) ?_
  show OGo p.tables e below _ (T6.setTop (mkF m 3 #[.val (.ref a1), .val (.int (1 : Int32))] [(.int (1 : Int32))]))
  refine OGo.st (fun _ k_ => XS.aloadN X6.here hx rfl (hb hby own_d_prog_22_method_9_code_3) rfl rfl k_) ?_
  show OGo p.tables e below _ (T6.setTop (mkF m 4 #[.val (.ref a1), .val (.int (1 : Int32))] [(.ref a1), (.int (1 : Int32))]))
  obtain ⟨T9, X9, ez9, st9⟩ := getF X6 hx hZ hown (host := "") (Or.inl (hw _ (List.mem_of_getElem? (i := 10) rfl))) Via.refl ez6 F_7 (g := (mkF m 4 #[.val (.ref a1), .val (.int (1 : Int32))] [(.ref a1), (.int (1 : Int32))])) rfl rfl (hb hby own_d_prog_22_method_9_code_4)
  refine OGo.st st9 ?_
  show OGo p.tables e below _ (T9.setTop (mkF m 7 #[.val (.ref a1), .val (.int (1 : Int32))] [(.ref b1), (.int (1 : Int32))]))
  have qz10 := own_alen X9 hx hZ ez9 V6 (g := (mkF m 7 #[.val (.ref a1), .val (.int (1 : Int32))] [(.ref b1), (.int (1 : Int32))])) rfl rfl (hb hby own_d_prog_22_method_9_code_7)
  refine OGo.st qz10 ?_
  show OGo p.tables e below _ (T9.setTop (mkF m 8 #[.val (.ref a1), .val (.int (1 : Int32))] [(.int (4 : Int32)), (.int (1 : Int32))]))
  refine OGo.st (fun _ k_ => XS.icmpNo X9.here hx rfl (hb hby own_d_prog_22_method_9_code_8) rfl (XT.ii_ge_f (by decide)) k_) ?_
  show OGo p.tables e below _ (T9.setTop (mkF m 11 #[.val (.ref a1), .val (.int (1 : Int32))] []))
  refine OGo.st (fun _ k_ => XS.aloadN X9.here hx rfl (hb hby own_d_prog_22_method_9_code_11) rfl rfl k_) ?_
  show OGo p.tables e below _ (T9.setTop (mkF m 12 #[.val (.ref a1), .val (.int (1 : Int32))] [(.ref a1)]))
  obtain ⟨T11, X11, ez11, st11⟩ := getF X9 hx hZ hown (host := "") (Or.inl (hw _ (List.mem_of_getElem? (i := 10) rfl))) Via.refl ez9 F_7 (g := (mkF m 12 #[.val (.ref a1), .val (.int (1 : Int32))] [(.ref a1)])) rfl rfl (hb hby own_d_prog_22_method_9_code_12)
  refine OGo.st st11 ?_
  show OGo p.tables e below _ (T11.setTop (mkF m 15 #[.val (.ref a1), .val (.int (1 : Int32))] [(.ref b1)]))
  refine OGo.st (fun _ k_ => XS.iloadN X11.here hx rfl (hb hby own_d_prog_22_method_9_code_15) rfl k_) ?_
  show OGo p.tables e below _ (T11.setTop (mkF m 16 #[.val (.ref a1), .val (.int (1 : Int32))] [(.int (1 : Int32)), (.ref b1)]))
  refine OGo.st (fun _ k_ => XS.aloadN X11.here hx rfl (hb hby own_d_prog_22_method_9_code_16) rfl rfl k_) ?_
  show OGo p.tables e below _ (T11.setTop (mkF m 17 #[.val (.ref a1), .val (.int (1 : Int32))] [(.ref a1), (.int (1 : Int32)), (.ref b1)]))
  obtain ⟨T12, X12, ez12, st12⟩ := getF X11 hx hZ hown (host := "") (Or.inl (hw _ (List.mem_of_getElem? (i := 10) rfl))) Via.refl ez11 F_7 (g := (mkF m 17 #[.val (.ref a1), .val (.int (1 : Int32))] [(.ref a1), (.int (1 : Int32)), (.ref b1)])) rfl rfl (hb hby own_d_prog_22_method_9_code_17)
  refine OGo.st st12 ?_
  show OGo p.tables e below _ (T12.setTop (mkF m 20 #[.val (.ref a1), .val (.int (1 : Int32))] [(.ref b1), (.int (1 : Int32)), (.ref b1)]))
  refine OGo.st (fun _ k_ => XS.iloadN X12.here hx rfl (hb hby own_d_prog_22_method_9_code_20) rfl k_) ?_
  show OGo p.tables e below _ (T12.setTop (mkF m 21 #[.val (.ref a1), .val (.int (1 : Int32))] [(.int (1 : Int32)), (.ref b1), (.int (1 : Int32)), (.ref b1)]))
  have qz13 := own_ldJ X12 hx hZ ez12 V6 (j := (1 : Int32)) (v := (w 1)) (by decide) rfl (g := (mkF m 21 #[.val (.ref a1), .val (.int (1 : Int32))] [(.int (1 : Int32)), (.ref b1), (.int (1 : Int32)), (.ref b1)])) rfl rfl (hb hby own_d_prog_22_method_9_code_21)
  refine OGo.st qz13 ?_
  show OGo p.tables e below _ (T12.setTop (mkF m 22 #[.val (.ref a1), .val (.int (1 : Int32))] [(.long (w 1)), (.int (1 : Int32)), (.ref b1)]))
  refine OGo.st (fun _ k_ => X12.ldc2J hx hown (mvT hZ (hw _ (List.mem_of_getElem? (i := 22) rfl))) rfl (hb hby own_d_prog_22_method_9_code_22) k_) ?_
  show OGo p.tables e below _ (T12.setTop (mkF m 25 #[.val (.ref a1), .val (.int (1 : Int32))] [(.long (-1 : Int64)), (.long (w 1)), (.int (1 : Int32)), (.ref b1)]))
  refine OGo.st (fun _ k_ => XS.lxor X12.here hx rfl (hb hby own_d_prog_22_method_9_code_25) rfl k_) ?_
  show OGo p.tables e below _ (T12.setTop (mkF m 26 #[.val (.ref a1), .val (.int (1 : Int32))] [(.long ((w 1) ^^^ (-1 : Int64))), (.int (1 : Int32)), (.ref b1)]))
  obtain ⟨T14, hz14, X14, ez14, W14, V14, st14⟩ := own_stJ X12 hx hZ ez12 V6 (j := (1 : Int32)) (by decide)  (g := (mkF m 26 #[.val (.ref a1), .val (.int (1 : Int32))] [(.long ((w 1) ^^^ (-1 : Int64))), (.int (1 : Int32)), (.ref b1)])) rfl rfl (hb hby own_d_prog_22_method_9_code_26)
  have F_15 := F_7.other W14 (Or.inl ne_a1_b1)
  have N14 := Fr.snoc X14 N6 g_b1
  have K_16 : Keep h0 hz14 [b1] := K_8.wr W14 (Or.inl (List.mem_of_getElem? (i := 0) rfl))
  refine OGo.st st14 ?_
  show OGo p.tables e below _ (T14.setTop (mkF m 27 #[.val (.ref a1), .val (.int (1 : Int32))] []))
  refine OGo.st (fun _ k_ => XS.iinc X14.here hx rfl (hb hby own_d_prog_22_method_9_code_27) rfl (l' := #[.val (.ref a1), .val (.int (2 : Int32))]) rfl k_) ?_
  show OGo p.tables e below _ (T14.setTop (mkF m 30 #[.val (.ref a1), .val (.int (2 : Int32))] []))
  refine OGo.st (fun _ k_ => XS.goto X14.here hx rfl (pc0 := 30) (pc' := 2) rfl (hb hby own_d_prog_22_method_9_code_30) (by decide) (by decide) k_) ?_
  show OGo p.tables e below _ (T14.setTop (mkF m 2 #[.val (.ref a1), .val (.int (2 : Int32))] []))
  refine OGo.st (fun _ k_ => XS.iloadN X14.here hx rfl (hb hby own_d_prog_22_method_9_code_2) rfl k_) ?_
  show OGo p.tables e below _ (T14.setTop (mkF m 3 #[.val (.ref a1), .val (.int (2 : Int32))] [(.int (2 : Int32))]))
  refine OGo.st (fun _ k_ => XS.aloadN X14.here hx rfl (hb hby own_d_prog_22_method_9_code_3) rfl rfl k_) ?_
  show OGo p.tables e below _ (T14.setTop (mkF m 4 #[.val (.ref a1), .val (.int (2 : Int32))] [(.ref a1), (.int (2 : Int32))]))
  obtain ⟨T17, X17, ez17, st17⟩ := getF X14 hx hZ hown (host := "") (Or.inl (hw _ (List.mem_of_getElem? (i := 10) rfl))) Via.refl ez14 F_15 (g := (mkF m 4 #[.val (.ref a1), .val (.int (2 : Int32))] [(.ref a1), (.int (2 : Int32))])) rfl rfl (hb hby own_d_prog_22_method_9_code_4)
  refine OGo.st st17 ?_
  show OGo p.tables e below _ (T17.setTop (mkF m 7 #[.val (.ref a1), .val (.int (2 : Int32))] [(.ref b1), (.int (2 : Int32))]))
  have qz18 := own_alen X17 hx hZ ez17 V14 (g := (mkF m 7 #[.val (.ref a1), .val (.int (2 : Int32))] [(.ref b1), (.int (2 : Int32))])) rfl rfl (hb hby own_d_prog_22_method_9_code_7)
  refine OGo.st qz18 ?_
  show OGo p.tables e below _ (T17.setTop (mkF m 8 #[.val (.ref a1), .val (.int (2 : Int32))] [(.int (4 : Int32)), (.int (2 : Int32))]))
  refine OGo.st (fun _ k_ => XS.icmpNo X17.here hx rfl (hb hby own_d_prog_22_method_9_code_8) rfl (XT.ii_ge_f (by decide)) k_) ?_
  show OGo p.tables e below _ (T17.setTop (mkF m 11 #[.val (.ref a1), .val (.int (2 : Int32))] []))
  refine OGo.st (fun _ k_ => XS.aloadN X17.here hx rfl (hb hby own_d_prog_22_method_9_code_11) rfl rfl k_) ?_
  show OGo p.tables e below _ (T17.setTop (mkF m 12 #[.val (.ref a1), .val (.int (2 : Int32))] [(.ref a1)]))
  obtain ⟨T19, X19, ez19, st19⟩ := getF X17 hx hZ hown (host := "") (Or.inl (hw _ (List.mem_of_getElem? (i := 10) rfl))) Via.refl ez17 F_15 (g := (mkF m 12 #[.val (.ref a1), .val (.int (2 : Int32))] [(.ref a1)])) rfl rfl (hb hby own_d_prog_22_method_9_code_12)
  refine OGo.st st19 ?_
  show OGo p.tables e below _ (T19.setTop (mkF m 15 #[.val (.ref a1), .val (.int (2 : Int32))] [(.ref b1)]))
  refine OGo.st (fun _ k_ => XS.iloadN X19.here hx rfl (hb hby own_d_prog_22_method_9_code_15) rfl k_) ?_
  show OGo p.tables e below _ (T19.setTop (mkF m 16 #[.val (.ref a1), .val (.int (2 : Int32))] [(.int (2 : Int32)), (.ref b1)]))
  refine OGo.st (fun _ k_ => XS.aloadN X19.here hx rfl (hb hby own_d_prog_22_method_9_code_16) rfl rfl k_) ?_
  show OGo p.tables e below _ (T19.setTop (mkF m 17 #[.val (.ref a1), .val (.int (2 : Int32))] [(.ref a1), (.int (2 : Int32)), (.ref b1)]))
  obtain ⟨T20, X20, ez20, st20⟩ := getF X19 hx hZ hown (host := "") (Or.inl (hw _ (List.mem_of_getElem? (i := 10) rfl))) Via.refl ez19 F_15 (g := (mkF m 17 #[.val (.ref a1), .val (.int (2 : Int32))] [(.ref a1), (.int (2 : Int32)), (.ref b1)])) rfl rfl (hb hby own_d_prog_22_method_9_code_17)
  refine OGo.st st20 ?_
  show OGo p.tables e below _ (T20.setTop (mkF m 20 #[.val (.ref a1), .val (.int (2 : Int32))] [(.ref b1), (.int (2 : Int32)), (.ref b1)]))
  refine OGo.st (fun _ k_ => XS.iloadN X20.here hx rfl (hb hby own_d_prog_22_method_9_code_20) rfl k_) ?_
  show OGo p.tables e below _ (T20.setTop (mkF m 21 #[.val (.ref a1), .val (.int (2 : Int32))] [(.int (2 : Int32)), (.ref b1), (.int (2 : Int32)), (.ref b1)]))
  have qz21 := own_ldJ X20 hx hZ ez20 V14 (j := (2 : Int32)) (v := (w 2)) (by decide) rfl (g := (mkF m 21 #[.val (.ref a1), .val (.int (2 : Int32))] [(.int (2 : Int32)), (.ref b1), (.int (2 : Int32)), (.ref b1)])) rfl rfl (hb hby own_d_prog_22_method_9_code_21)
  refine OGo.st qz21 ?_
  show OGo p.tables e below _ (T20.setTop (mkF m 22 #[.val (.ref a1), .val (.int (2 : Int32))] [(.long (w 2)), (.int (2 : Int32)), (.ref b1)]))
  refine OGo.st (fun _ k_ => X20.ldc2J hx hown (mvT hZ (hw _ (List.mem_of_getElem? (i := 22) rfl))) rfl (hb hby own_d_prog_22_method_9_code_22) k_) ?_
  show OGo p.tables e below _ (T20.setTop (mkF m 25 #[.val (.ref a1), .val (.int (2 : Int32))] [(.long (-1 : Int64)), (.long (w 2)), (.int (2 : Int32)), (.ref b1)]))
  refine OGo.st (fun _ k_ => XS.lxor X20.here hx rfl (hb hby own_d_prog_22_method_9_code_25) rfl k_) ?_
  show OGo p.tables e below _ (T20.setTop (mkF m 26 #[.val (.ref a1), .val (.int (2 : Int32))] [(.long ((w 2) ^^^ (-1 : Int64))), (.int (2 : Int32)), (.ref b1)]))
  obtain ⟨T22, hz22, X22, ez22, W22, V22, st22⟩ := own_stJ X20 hx hZ ez20 V14 (j := (2 : Int32)) (by decide)  (g := (mkF m 26 #[.val (.ref a1), .val (.int (2 : Int32))] [(.long ((w 2) ^^^ (-1 : Int64))), (.int (2 : Int32)), (.ref b1)])) rfl rfl (hb hby own_d_prog_22_method_9_code_26)
  have F_23 := F_15.other W22 (Or.inl ne_a1_b1)
  have N22 := Fr.snoc X22 N14 g_b1
  have K_24 : Keep h0 hz22 [b1] := K_16.wr W22 (Or.inl (List.mem_of_getElem? (i := 0) rfl))
  refine OGo.st st22 ?_
  show OGo p.tables e below _ (T22.setTop (mkF m 27 #[.val (.ref a1), .val (.int (2 : Int32))] []))
  refine OGo.st (fun _ k_ => XS.iinc X22.here hx rfl (hb hby own_d_prog_22_method_9_code_27) rfl (l' := #[.val (.ref a1), .val (.int (3 : Int32))]) rfl k_) ?_
  show OGo p.tables e below _ (T22.setTop (mkF m 30 #[.val (.ref a1), .val (.int (3 : Int32))] []))
  refine OGo.st (fun _ k_ => XS.goto X22.here hx rfl (pc0 := 30) (pc' := 2) rfl (hb hby own_d_prog_22_method_9_code_30) (by decide) (by decide) k_) ?_
  show OGo p.tables e below _ (T22.setTop (mkF m 2 #[.val (.ref a1), .val (.int (3 : Int32))] []))
  refine OGo.st (fun _ k_ => XS.iloadN X22.here hx rfl (hb hby own_d_prog_22_method_9_code_2) rfl k_) ?_
  show OGo p.tables e below _ (T22.setTop (mkF m 3 #[.val (.ref a1), .val (.int (3 : Int32))] [(.int (3 : Int32))]))
  refine OGo.st (fun _ k_ => XS.aloadN X22.here hx rfl (hb hby own_d_prog_22_method_9_code_3) rfl rfl k_) ?_
  show OGo p.tables e below _ (T22.setTop (mkF m 4 #[.val (.ref a1), .val (.int (3 : Int32))] [(.ref a1), (.int (3 : Int32))]))
  obtain ⟨T25, X25, ez25, st25⟩ := getF X22 hx hZ hown (host := "") (Or.inl (hw _ (List.mem_of_getElem? (i := 10) rfl))) Via.refl ez22 F_23 (g := (mkF m 4 #[.val (.ref a1), .val (.int (3 : Int32))] [(.ref a1), (.int (3 : Int32))])) rfl rfl (hb hby own_d_prog_22_method_9_code_4)
  refine OGo.st st25 ?_
  show OGo p.tables e below _ (T25.setTop (mkF m 7 #[.val (.ref a1), .val (.int (3 : Int32))] [(.ref b1), (.int (3 : Int32))]))
  have qz26 := own_alen X25 hx hZ ez25 V22 (g := (mkF m 7 #[.val (.ref a1), .val (.int (3 : Int32))] [(.ref b1), (.int (3 : Int32))])) rfl rfl (hb hby own_d_prog_22_method_9_code_7)
  refine OGo.st qz26 ?_
  show OGo p.tables e below _ (T25.setTop (mkF m 8 #[.val (.ref a1), .val (.int (3 : Int32))] [(.int (4 : Int32)), (.int (3 : Int32))]))
  refine OGo.st (fun _ k_ => XS.icmpNo X25.here hx rfl (hb hby own_d_prog_22_method_9_code_8) rfl (XT.ii_ge_f (by decide)) k_) ?_
  show OGo p.tables e below _ (T25.setTop (mkF m 11 #[.val (.ref a1), .val (.int (3 : Int32))] []))
  refine OGo.st (fun _ k_ => XS.aloadN X25.here hx rfl (hb hby own_d_prog_22_method_9_code_11) rfl rfl k_) ?_
  show OGo p.tables e below _ (T25.setTop (mkF m 12 #[.val (.ref a1), .val (.int (3 : Int32))] [(.ref a1)]))
  obtain ⟨T27, X27, ez27, st27⟩ := getF X25 hx hZ hown (host := "") (Or.inl (hw _ (List.mem_of_getElem? (i := 10) rfl))) Via.refl ez25 F_23 (g := (mkF m 12 #[.val (.ref a1), .val (.int (3 : Int32))] [(.ref a1)])) rfl rfl (hb hby own_d_prog_22_method_9_code_12)
  refine OGo.st st27 ?_
  show OGo p.tables e below _ (T27.setTop (mkF m 15 #[.val (.ref a1), .val (.int (3 : Int32))] [(.ref b1)]))
  refine OGo.st (fun _ k_ => XS.iloadN X27.here hx rfl (hb hby own_d_prog_22_method_9_code_15) rfl k_) ?_
  show OGo p.tables e below _ (T27.setTop (mkF m 16 #[.val (.ref a1), .val (.int (3 : Int32))] [(.int (3 : Int32)), (.ref b1)]))
  refine OGo.st (fun _ k_ => XS.aloadN X27.here hx rfl (hb hby own_d_prog_22_method_9_code_16) rfl rfl k_) ?_
  show OGo p.tables e below _ (T27.setTop (mkF m 17 #[.val (.ref a1), .val (.int (3 : Int32))] [(.ref a1), (.int (3 : Int32)), (.ref b1)]))
  obtain ⟨T28, X28, ez28, st28⟩ := getF X27 hx hZ hown (host := "") (Or.inl (hw _ (List.mem_of_getElem? (i := 10) rfl))) Via.refl ez27 F_23 (g := (mkF m 17 #[.val (.ref a1), .val (.int (3 : Int32))] [(.ref a1), (.int (3 : Int32)), (.ref b1)])) rfl rfl (hb hby own_d_prog_22_method_9_code_17)
  refine OGo.st st28 ?_
  show OGo p.tables e below _ (T28.setTop (mkF m 20 #[.val (.ref a1), .val (.int (3 : Int32))] [(.ref b1), (.int (3 : Int32)), (.ref b1)]))
  refine OGo.st (fun _ k_ => XS.iloadN X28.here hx rfl (hb hby own_d_prog_22_method_9_code_20) rfl k_) ?_
  show OGo p.tables e below _ (T28.setTop (mkF m 21 #[.val (.ref a1), .val (.int (3 : Int32))] [(.int (3 : Int32)), (.ref b1), (.int (3 : Int32)), (.ref b1)]))
  have qz29 := own_ldJ X28 hx hZ ez28 V22 (j := (3 : Int32)) (v := (w 3)) (by decide) rfl (g := (mkF m 21 #[.val (.ref a1), .val (.int (3 : Int32))] [(.int (3 : Int32)), (.ref b1), (.int (3 : Int32)), (.ref b1)])) rfl rfl (hb hby own_d_prog_22_method_9_code_21)
  refine OGo.st qz29 ?_
  show OGo p.tables e below _ (T28.setTop (mkF m 22 #[.val (.ref a1), .val (.int (3 : Int32))] [(.long (w 3)), (.int (3 : Int32)), (.ref b1)]))
  refine OGo.st (fun _ k_ => X28.ldc2J hx hown (mvT hZ (hw _ (List.mem_of_getElem? (i := 22) rfl))) rfl (hb hby own_d_prog_22_method_9_code_22) k_) ?_
  show OGo p.tables e below _ (T28.setTop (mkF m 25 #[.val (.ref a1), .val (.int (3 : Int32))] [(.long (-1 : Int64)), (.long (w 3)), (.int (3 : Int32)), (.ref b1)]))
  refine OGo.st (fun _ k_ => XS.lxor X28.here hx rfl (hb hby own_d_prog_22_method_9_code_25) rfl k_) ?_
  show OGo p.tables e below _ (T28.setTop (mkF m 26 #[.val (.ref a1), .val (.int (3 : Int32))] [(.long ((w 3) ^^^ (-1 : Int64))), (.int (3 : Int32)), (.ref b1)]))
  obtain ⟨T30, hz30, X30, ez30, W30, V30, st30⟩ := own_stJ X28 hx hZ ez28 V22 (j := (3 : Int32)) (by decide)  (g := (mkF m 26 #[.val (.ref a1), .val (.int (3 : Int32))] [(.long ((w 3) ^^^ (-1 : Int64))), (.int (3 : Int32)), (.ref b1)])) rfl rfl (hb hby own_d_prog_22_method_9_code_26)
  have F_31 := F_23.other W30 (Or.inl ne_a1_b1)
  have N30 := Fr.snoc X30 N22 g_b1
  have K_32 : Keep h0 hz30 [b1] := K_24.wr W30 (Or.inl (List.mem_of_getElem? (i := 0) rfl))
  refine OGo.st st30 ?_
  show OGo p.tables e below _ (T30.setTop (mkF m 27 #[.val (.ref a1), .val (.int (3 : Int32))] []))
  refine OGo.st (fun _ k_ => XS.iinc X30.here hx rfl (hb hby own_d_prog_22_method_9_code_27) rfl (l' := #[.val (.ref a1), .val (.int (4 : Int32))]) rfl k_) ?_
  show OGo p.tables e below _ (T30.setTop (mkF m 30 #[.val (.ref a1), .val (.int (4 : Int32))] []))
  refine OGo.st (fun _ k_ => XS.goto X30.here hx rfl (pc0 := 30) (pc' := 2) rfl (hb hby own_d_prog_22_method_9_code_30) (by decide) (by decide) k_) ?_
  show OGo p.tables e below _ (T30.setTop (mkF m 2 #[.val (.ref a1), .val (.int (4 : Int32))] []))
  refine OGo.st (fun _ k_ => XS.iloadN X30.here hx rfl (hb hby own_d_prog_22_method_9_code_2) rfl k_) ?_
  show OGo p.tables e below _ (T30.setTop (mkF m 3 #[.val (.ref a1), .val (.int (4 : Int32))] [(.int (4 : Int32))]))
  refine OGo.st (fun _ k_ => XS.aloadN X30.here hx rfl (hb hby own_d_prog_22_method_9_code_3) rfl rfl k_) ?_
  show OGo p.tables e below _ (T30.setTop (mkF m 4 #[.val (.ref a1), .val (.int (4 : Int32))] [(.ref a1), (.int (4 : Int32))]))
  obtain ⟨T33, X33, ez33, st33⟩ := getF X30 hx hZ hown (host := "") (Or.inl (hw _ (List.mem_of_getElem? (i := 10) rfl))) Via.refl ez30 F_31 (g := (mkF m 4 #[.val (.ref a1), .val (.int (4 : Int32))] [(.ref a1), (.int (4 : Int32))])) rfl rfl (hb hby own_d_prog_22_method_9_code_4)
  refine OGo.st st33 ?_
  show OGo p.tables e below _ (T33.setTop (mkF m 7 #[.val (.ref a1), .val (.int (4 : Int32))] [(.ref b1), (.int (4 : Int32))]))
  have qz34 := own_alen X33 hx hZ ez33 V30 (g := (mkF m 7 #[.val (.ref a1), .val (.int (4 : Int32))] [(.ref b1), (.int (4 : Int32))])) rfl rfl (hb hby own_d_prog_22_method_9_code_7)
  refine OGo.st qz34 ?_
  show OGo p.tables e below _ (T33.setTop (mkF m 8 #[.val (.ref a1), .val (.int (4 : Int32))] [(.int (4 : Int32)), (.int (4 : Int32))]))
  refine OGo.st (fun _ k_ => XS.icmpYes X33.here hx rfl (pc0 := 8) (pc' := 33) rfl (hb hby own_d_prog_22_method_9_code_8) rfl (XT.ii_ge_t (by decide)) (by decide) (by decide) k_) ?_
  have Af_35 : Arf Z hz30 b1 k1 .long 4 (own_L (fun i => w i ^^^ (-1 : Int64))) := V30.congr (fun i hi => match i, hi with | 0, _ => rfl | 1, _ => rfl | 2, _ => rfl | 3, _ => rfl | (n_ + 4), q_ => absurd q_ (by show ¬ n_ + 4 < 4; omega))
  show OGo p.tables e below _ (T33.setTop (mkF m 33 #[.val (.ref a1), .val (.int (4 : Int32))] []))
  refine OGo.fin X33 (v := none) (fun _ => rfl) hlk (fun fs hr => X33.returnOut hx Bd.returns (hb hby own_d_prog_22_method_9_code_33) hr) ?_ (by decide) (by decide)
  show own_Q_rm3 Z a1 b1 k1 w h0 n0 _ T33.heap _
  rw [ez33]
  exact ⟨rfl, N30, K_32, Af_35⟩
theorem own_d_prog_22_method_8_code_0 : decode prog_22_method_8_code 0 = .ok (.iconst 0, 1) := by decide +kernel
theorem own_d_prog_22_method_8_code_1 : decode prog_22_method_8_code 1 = .ok (.istore_n 2, 1) := by decide +kernel
theorem own_d_prog_22_method_8_code_2 : decode prog_22_method_8_code 2 = .ok (.iload_n 2, 1) := by decide +kernel
theorem own_d_prog_22_method_8_code_3 : decode prog_22_method_8_code 3 = .ok (.aload_n 0, 1) := by decide +kernel
theorem own_d_prog_22_method_8_code_4 : decode prog_22_method_8_code 4 = .ok (.getfield 7, 3) := by decide +kernel
theorem own_d_prog_22_method_8_code_7 : decode prog_22_method_8_code 7 = .ok (.arraylength, 1) := by decide +kernel
theorem own_d_prog_22_method_8_code_8 : decode prog_22_method_8_code 8 = .ok (.if_icmp .ge 24, 3) := by decide +kernel
theorem own_d_prog_22_method_8_code_11 : decode prog_22_method_8_code 11 = .ok (.aload_n 0, 1) := by decide +kernel
theorem own_d_prog_22_method_8_code_12 : decode prog_22_method_8_code 12 = .ok (.getfield 7, 3) := by decide +kernel
theorem own_d_prog_22_method_8_code_15 : decode prog_22_method_8_code 15 = .ok (.iload_n 2, 1) := by decide +kernel
theorem own_d_prog_22_method_8_code_16 : decode prog_22_method_8_code 16 = .ok (.dup2, 1) := by decide +kernel
theorem own_d_prog_22_method_8_code_17 : decode prog_22_method_8_code 17 = .ok (.laload, 1) := by decide +kernel
theorem own_d_prog_22_method_8_code_18 : decode prog_22_method_8_code 18 = .ok (.aload_n 1, 1) := by decide +kernel
theorem own_d_prog_22_method_8_code_19 : decode prog_22_method_8_code 19 = .ok (.getfield 7, 3) := by decide +kernel
theorem own_d_prog_22_method_8_code_22 : decode prog_22_method_8_code 22 = .ok (.iload_n 2, 1) := by decide +kernel
theorem own_d_prog_22_method_8_code_23 : decode prog_22_method_8_code 23 = .ok (.laload, 1) := by decide +kernel
theorem own_d_prog_22_method_8_code_24 : decode prog_22_method_8_code 24 = .ok (.lor, 1) := by decide +kernel
theorem own_d_prog_22_method_8_code_25 : decode prog_22_method_8_code 25 = .ok (.lastore, 1) := by decide +kernel
theorem own_d_prog_22_method_8_code_26 : decode prog_22_method_8_code 26 = .ok (.iinc 2 1, 3) := by decide +kernel
theorem own_d_prog_22_method_8_code_29 : decode prog_22_method_8_code 29 = .ok (.goto (-27), 3) := by decide +kernel
theorem own_d_prog_22_method_8_code_32 : decode prog_22_method_8_code 32 = .ok (.return_, 1) := by decide +kernel
theorem own_ef_rm4 (m : MethodId) (x0 : Addr) (x1 : Addr) : entryFrame m #[(.ref x0), (.ref x1)] 3 = mkF m 0 #[.val (.ref x0), .val (.ref x1), .unset] [] := by first | (simp [entryFrame, mkF, argsToLocals, Value.category]; done) | rfl
def own_Q_rm4 (Z : State) (a1 : Addr) (b1 : Addr) (k1 : ClassId) (w : Nat → Int64) (h0 : Heap) (n0 : Nat) (v : Option Value) (h : Heap) (L : List Loc) : Prop := v = none ∧ Fr n0 L ∧ Keep h0 h [b1] ∧ Arf Z h b1 k1 .long 4 (own_L w)
set_option maxRecDepth 65536 in
set_option maxHeartbeats 40000000 in
theorem rm4 (l : Launch) (Z : State) (a0 : Array Value) (hw : ∀ d ∈ tables_1, d.before a0 Z = true) (ws : List Jvm.Cond) (a1 : Addr) (b1 : Addr) (k1 : ClassId) (w : Nat → Int64) (h0 : Heap) (n0 : Nat) (Z0 : n0 ≤ h0.size) (F_words_a1 : Fld Z h0 a1 "com/example/locator/locator/ByteSet" "words" "[J" (.ref b1)) (A_b1 : Arf Z h0 b1 k1 .long 4 (own_L w)) (g_b1 : n0 ≤ b1) (ne_a1_b1 : a1 ≠ b1) :
    OMet l Z (⟨"com/example/locator/locator/ByteSet", "addAll", "(Lcom/example/locator/locator/ByteSet;)V"⟩ : MethodName) prog_22_method_8_code 3 none ws ({ frames := 0, cells := 0, slots := 0, locals := 0 } : Room) #[(.ref a1), (.ref a1)] h0 (own_Q_rm4 Z a1 b1 k1 w h0 n0) := by
  refine MetFree.of_bodySF (plainFor_of_name own_pn0) hisR ?_
  intro p e s m args below meth c s₁ Bd hml0 hP hK
  obtain ⟨rfl, hZ, hh⟩ := hP
  have hx := Bd.exec
  have hby := Bd.bytes
  have hml : c.maxLocals = 3 := hml0
  have hown : s.vm.findClass "com/example/locator/locator/ByteSet" = some m.cls := findClass_of_methodNamed Bd.named
  have hnm := (name_of_methodNamed Bd.named Bd.method).1
  have hlk : meth.locks = false := Bd.notSynchronized
  have X0 : Stand p l e ({ frames := 0, cells := 0, slots := 0, locals := 0 } : Room) s m #[(.ref a1), (.ref a1)] below meth c s₁ [] 0 0 := Stand.of_body Bd
  have e0 : s₁.heap = h0 := by rw [← hh, Bd.state]; rfl
  have N0 := Fr.nil n0
  refine OGo.enter (P := OPost s (own_Q_rm4 Z a1 b1 k1 w h0 n0) 0 0) (own_ef_rm4 m a1 a1) ?_
  show OGo p.tables e below _ (s₁.setTop (mkF m 0 #[.val (.ref a1), .val (.ref a1), .unset] []))
  refine OGo.st (fun _ k_ => XS.iconst X0.here hx rfl (hb hby own_d_prog_22_method_8_code_0) k_) ?_
  show OGo p.tables e below _ (s₁.setTop (mkF m 1 #[.val (.ref a1), .val (.ref a1), .unset] [(.int (0 : Int32))]))
  refine OGo.st (fun _ k_ => XS.istoreN X0.here hx rfl (hb hby own_d_prog_22_method_8_code_1) rfl (l' := #[.val (.ref a1), .val (.ref a1), .val (.int (0 : Int32))]) rfl k_) ?_
  show OGo p.tables e below _ (s₁.setTop (mkF m 2 #[.val (.ref a1), .val (.ref a1), .val (.int (0 : Int32))] []))
  refine OGo.st (fun _ k_ => XS.iloadN X0.here hx rfl (hb hby own_d_prog_22_method_8_code_2) rfl k_) ?_
  show OGo p.tables e below _ (s₁.setTop (mkF m 3 #[.val (.ref a1), .val (.ref a1), .val (.int (0 : Int32))] [(.int (0 : Int32))]))
  refine OGo.st (fun _ k_ => XS.aloadN X0.here hx rfl (hb hby own_d_prog_22_method_8_code_3) rfl rfl k_) ?_
  show OGo p.tables e below _ (s₁.setTop (mkF m 4 #[.val (.ref a1), .val (.ref a1), .val (.int (0 : Int32))] [(.ref a1), (.int (0 : Int32))]))
  obtain ⟨T1, X1, ez1, st1⟩ := getF X0 hx hZ hown (host := "") (Or.inl (hw _ (List.mem_of_getElem? (i := 10) rfl))) Via.refl e0 F_words_a1 (g := (mkF m 4 #[.val (.ref a1), .val (.ref a1), .val (.int (0 : Int32))] [(.ref a1), (.int (0 : Int32))])) rfl rfl (hb hby own_d_prog_22_method_8_code_4)
  refine OGo.st st1 ?_
  show OGo p.tables e below _ (T1.setTop (mkF m 7 #[.val (.ref a1), .val (.ref a1), .val (.int (0 : Int32))] [(.ref b1), (.int (0 : Int32))]))
  have qz2 := own_alen X1 hx hZ ez1 A_b1 (g := (mkF m 7 #[.val (.ref a1), .val (.ref a1), .val (.int (0 : Int32))] [(.ref b1), (.int (0 : Int32))])) rfl rfl (hb hby own_d_prog_22_method_8_code_7)
  refine OGo.st qz2 ?_
  show OGo p.tables e below _ (T1.setTop (mkF m 8 #[.val (.ref a1), .val (.ref a1), .val (.int (0 : Int32))] [(.int (4 : Int32)), (.int (0 : Int32))]))
  refine OGo.st (fun _ k_ => XS.icmpNo X1.here hx rfl (hb hby own_d_prog_22_method_8_code_8) rfl (XT.ii_ge_f (by decide)) k_) ?_
  show OGo p.tables e below _ (T1.setTop (mkF m 11 #[.val (.ref a1), .val (.ref a1), .val (.int (0 : Int32))] []))
  refine OGo.st (fun _ k_ => XS.aloadN X1.here hx rfl (hb hby own_d_prog_22_method_8_code_11) rfl rfl k_) ?_
  show OGo p.tables e below _ (T1.setTop (mkF m 12 #[.val (.ref a1), .val (.ref a1), .val (.int (0 : Int32))] [(.ref a1)]))
  obtain ⟨T3, X3, ez3, st3⟩ := getF X1 hx hZ hown (host := "") (Or.inl (hw _ (List.mem_of_getElem? (i := 10) rfl))) Via.refl ez1 F_words_a1 (g := (mkF m 12 #[.val (.ref a1), .val (.ref a1), .val (.int (0 : Int32))] [(.ref a1)])) rfl rfl (hb hby own_d_prog_22_method_8_code_12)
  refine OGo.st st3 ?_
  show OGo p.tables e below _ (T3.setTop (mkF m 15 #[.val (.ref a1), .val (.ref a1), .val (.int (0 : Int32))] [(.ref b1)]))
  refine OGo.st (fun _ k_ => XS.iloadN X3.here hx rfl (hb hby own_d_prog_22_method_8_code_15) rfl k_) ?_
  show OGo p.tables e below _ (T3.setTop (mkF m 16 #[.val (.ref a1), .val (.ref a1), .val (.int (0 : Int32))] [(.int (0 : Int32)), (.ref b1)]))
  refine OGo.st (fun _ k_ => XT.dup2 X3.here hx rfl (hb hby own_d_prog_22_method_8_code_16) rfl rfl rfl k_) ?_
  show OGo p.tables e below _ (T3.setTop (mkF m 17 #[.val (.ref a1), .val (.ref a1), .val (.int (0 : Int32))] [(.int (0 : Int32)), (.ref b1), (.int (0 : Int32)), (.ref b1)]))
  have qz4 := own_ldJ X3 hx hZ ez3 A_b1 (j := (0 : Int32)) (v := (w 0)) (by decide) rfl (g := (mkF m 17 #[.val (.ref a1), .val (.ref a1), .val (.int (0 : Int32))] [(.int (0 : Int32)), (.ref b1), (.int (0 : Int32)), (.ref b1)])) rfl rfl (hb hby own_d_prog_22_method_8_code_17)
  refine OGo.st qz4 ?_
  show OGo p.tables e below _ (T3.setTop (mkF m 18 #[.val (.ref a1), .val (.ref a1), .val (.int (0 : Int32))] [(.long (w 0)), (.int (0 : Int32)), (.ref b1)]))
  refine OGo.st (fun _ k_ => XS.aloadN X3.here hx rfl (hb hby own_d_prog_22_method_8_code_18) rfl rfl k_) ?_
  show OGo p.tables e below _ (T3.setTop (mkF m 19 #[.val (.ref a1), .val (.ref a1), .val (.int (0 : Int32))] [(.ref a1), (.long (w 0)), (.int (0 : Int32)), (.ref b1)]))
  obtain ⟨T5, X5, ez5, st5⟩ := getF X3 hx hZ hown (host := "") (Or.inl (hw _ (List.mem_of_getElem? (i := 10) rfl))) Via.refl ez3 F_words_a1 (g := (mkF m 19 #[.val (.ref a1), .val (.ref a1), .val (.int (0 : Int32))] [(.ref a1), (.long (w 0)), (.int (0 : Int32)), (.ref b1)])) rfl rfl (hb hby own_d_prog_22_method_8_code_19)
  refine OGo.st st5 ?_
  show OGo p.tables e below _ (T5.setTop (mkF m 22 #[.val (.ref a1), .val (.ref a1), .val (.int (0 : Int32))] [(.ref b1), (.long (w 0)), (.int (0 : Int32)), (.ref b1)]))
  refine OGo.st (fun _ k_ => XS.iloadN X5.here hx rfl (hb hby own_d_prog_22_method_8_code_22) rfl k_) ?_
  show OGo p.tables e below _ (T5.setTop (mkF m 23 #[.val (.ref a1), .val (.ref a1), .val (.int (0 : Int32))] [(.int (0 : Int32)), (.ref b1), (.long (w 0)), (.int (0 : Int32)), (.ref b1)]))
  have qz6 := own_ldJ X5 hx hZ ez5 A_b1 (j := (0 : Int32)) (v := (w 0)) (by decide) rfl (g := (mkF m 23 #[.val (.ref a1), .val (.ref a1), .val (.int (0 : Int32))] [(.int (0 : Int32)), (.ref b1), (.long (w 0)), (.int (0 : Int32)), (.ref b1)])) rfl rfl (hb hby own_d_prog_22_method_8_code_23)
  refine OGo.st qz6 ?_
  show OGo p.tables e below _ (T5.setTop (mkF m 24 #[.val (.ref a1), .val (.ref a1), .val (.int (0 : Int32))] [(.long (w 0)), (.long (w 0)), (.int (0 : Int32)), (.ref b1)]))
  refine OGo.st (fun _ k_ => XS.lor X5.here hx rfl (hb hby own_d_prog_22_method_8_code_24) rfl k_) ?_
  show OGo p.tables e below _ (T5.setTop (mkF m 25 #[.val (.ref a1), .val (.ref a1), .val (.int (0 : Int32))] [(.long ((w 0) ||| (w 0))), (.int (0 : Int32)), (.ref b1)]))
  obtain ⟨T7, hz7, X7, ez7, W7, V7, st7⟩ := own_stJ X5 hx hZ ez5 A_b1 (j := (0 : Int32)) (by decide)  (g := (mkF m 25 #[.val (.ref a1), .val (.ref a1), .val (.int (0 : Int32))] [(.long ((w 0) ||| (w 0))), (.int (0 : Int32)), (.ref b1)])) rfl rfl (hb hby own_d_prog_22_method_8_code_25)
  have F_8 := F_words_a1.other W7 (Or.inl ne_a1_b1)
  have N7 := Fr.snoc X7 N0 g_b1
  have K_9 : Keep h0 hz7 [b1] := (Keep.refl h0 [b1]).wr W7 (Or.inl (List.mem_of_getElem? (i := 0) rfl))
  refine OGo.st st7 ?_
  show OGo p.tables e below _ (T7.setTop (mkF m 26 #[.val (.ref a1), .val (.ref a1), .val (.int (0 : Int32))] []))
  refine OGo.st (fun _ k_ => XS.iinc X7.here hx rfl (hb hby own_d_prog_22_method_8_code_26) rfl (l' := #[.val (.ref a1), .val (.ref a1), .val (.int (1 : Int32))]) rfl k_) ?_
  show OGo p.tables e below _ (T7.setTop (mkF m 29 #[.val (.ref a1), .val (.ref a1), .val (.int (1 : Int32))] []))
  refine OGo.st (fun _ k_ => XS.goto X7.here hx rfl (pc0 := 29) (pc' := 2) rfl (hb hby own_d_prog_22_method_8_code_29) (by decide) (by decide) k_) ?_
  show OGo p.tables e below _ (T7.setTop (mkF m 2 #[.val (.ref a1), .val (.ref a1), .val (.int (1 : Int32))] []))
  refine OGo.st (fun _ k_ => XS.iloadN X7.here hx rfl (hb hby own_d_prog_22_method_8_code_2) rfl k_) ?_
  show OGo p.tables e below _ (T7.setTop (mkF m 3 #[.val (.ref a1), .val (.ref a1), .val (.int (1 : Int32))] [(.int (1 : Int32))]))
  refine OGo.st (fun _ k_ => XS.aloadN X7.here hx rfl (hb hby own_d_prog_22_method_8_code_3) rfl rfl k_) ?_
  show OGo p.tables e below _ (T7.setTop (mkF m 4 #[.val (.ref a1), .val (.ref a1), .val (.int (1 : Int32))] [(.ref a1), (.int (1 : Int32))]))
  obtain ⟨T10, X10, ez10, st10⟩ := getF X7 hx hZ hown (host := "") (Or.inl (hw _ (List.mem_of_getElem? (i := 10) rfl))) Via.refl ez7 F_8 (g := (mkF m 4 #[.val (.ref a1), .val (.ref a1), .val (.int (1 : Int32))] [(.ref a1), (.int (1 : Int32))])) rfl rfl (hb hby own_d_prog_22_method_8_code_4)
  refine OGo.st st10 ?_
  show OGo p.tables e below _ (T10.setTop (mkF m 7 #[.val (.ref a1), .val (.ref a1), .val (.int (1 : Int32))] [(.ref b1), (.int (1 : Int32))]))
  have qz11 := own_alen X10 hx hZ ez10 V7 (g := (mkF m 7 #[.val (.ref a1), .val (.ref a1), .val (.int (1 : Int32))] [(.ref b1), (.int (1 : Int32))])) rfl rfl (hb hby own_d_prog_22_method_8_code_7)
  refine OGo.st qz11 ?_
  show OGo p.tables e below _ (T10.setTop (mkF m 8 #[.val (.ref a1), .val (.ref a1), .val (.int (1 : Int32))] [(.int (4 : Int32)), (.int (1 : Int32))]))
  refine OGo.st (fun _ k_ => XS.icmpNo X10.here hx rfl (hb hby own_d_prog_22_method_8_code_8) rfl (XT.ii_ge_f (by decide)) k_) ?_
  show OGo p.tables e below _ (T10.setTop (mkF m 11 #[.val (.ref a1), .val (.ref a1), .val (.int (1 : Int32))] []))
  refine OGo.st (fun _ k_ => XS.aloadN X10.here hx rfl (hb hby own_d_prog_22_method_8_code_11) rfl rfl k_) ?_
  show OGo p.tables e below _ (T10.setTop (mkF m 12 #[.val (.ref a1), .val (.ref a1), .val (.int (1 : Int32))] [(.ref a1)]))
  obtain ⟨T12, X12, ez12, st12⟩ := getF X10 hx hZ hown (host := "") (Or.inl (hw _ (List.mem_of_getElem? (i := 10) rfl))) Via.refl ez10 F_8 (g := (mkF m 12 #[.val (.ref a1), .val (.ref a1), .val (.int (1 : Int32))] [(.ref a1)])) rfl rfl (hb hby own_d_prog_22_method_8_code_12)
  refine OGo.st st12 ?_
  show OGo p.tables e below _ (T12.setTop (mkF m 15 #[.val (.ref a1), .val (.ref a1), .val (.int (1 : Int32))] [(.ref b1)]))
  refine OGo.st (fun _ k_ => XS.iloadN X12.here hx rfl (hb hby own_d_prog_22_method_8_code_15) rfl k_) ?_
  show OGo p.tables e below _ (T12.setTop (mkF m 16 #[.val (.ref a1), .val (.ref a1), .val (.int (1 : Int32))] [(.int (1 : Int32)), (.ref b1)]))
  refine OGo.st (fun _ k_ => XT.dup2 X12.here hx rfl (hb hby own_d_prog_22_method_8_code_16) rfl rfl rfl k_) ?_
  show OGo p.tables e below _ (T12.setTop (mkF m 17 #[.val (.ref a1), .val (.ref a1), .val (.int (1 : Int32))] [(.int (1 : Int32)), (.ref b1), (.int (1 : Int32)), (.ref b1)]))
  have qz13 := own_ldJ X12 hx hZ ez12 V7 (j := (1 : Int32)) (v := (w 1)) (by decide) rfl (g := (mkF m 17 #[.val (.ref a1), .val (.ref a1), .val (.int (1 : Int32))] [(.int (1 : Int32)), (.ref b1), (.int (1 : Int32)), (.ref b1)])) rfl rfl (hb hby own_d_prog_22_method_8_code_17)
  refine OGo.st qz13 ?_
  show OGo p.tables e below _ (T12.setTop (mkF m 18 #[.val (.ref a1), .val (.ref a1), .val (.int (1 : Int32))] [(.long (w 1)), (.int (1 : Int32)), (.ref b1)]))
  refine OGo.st (fun _ k_ => XS.aloadN X12.here hx rfl (hb hby own_d_prog_22_method_8_code_18) rfl rfl k_) ?_
  show OGo p.tables e below _ (T12.setTop (mkF m 19 #[.val (.ref a1), .val (.ref a1), .val (.int (1 : Int32))] [(.ref a1), (.long (w 1)), (.int (1 : Int32)), (.ref b1)]))
  obtain ⟨T14, X14, ez14, st14⟩ := getF X12 hx hZ hown (host := "") (Or.inl (hw _ (List.mem_of_getElem? (i := 10) rfl))) Via.refl ez12 F_8 (g := (mkF m 19 #[.val (.ref a1), .val (.ref a1), .val (.int (1 : Int32))] [(.ref a1), (.long (w 1)), (.int (1 : Int32)), (.ref b1)])) rfl rfl (hb hby own_d_prog_22_method_8_code_19)
  refine OGo.st st14 ?_
  show OGo p.tables e below _ (T14.setTop (mkF m 22 #[.val (.ref a1), .val (.ref a1), .val (.int (1 : Int32))] [(.ref b1), (.long (w 1)), (.int (1 : Int32)), (.ref b1)]))
  refine OGo.st (fun _ k_ => XS.iloadN X14.here hx rfl (hb hby own_d_prog_22_method_8_code_22) rfl k_) ?_
  show OGo p.tables e below _ (T14.setTop (mkF m 23 #[.val (.ref a1), .val (.ref a1), .val (.int (1 : Int32))] [(.int (1 : Int32)), (.ref b1), (.long (w 1)), (.int (1 : Int32)), (.ref b1)]))
  have qz15 := own_ldJ X14 hx hZ ez14 V7 (j := (1 : Int32)) (v := (w 1)) (by decide) rfl (g := (mkF m 23 #[.val (.ref a1), .val (.ref a1), .val (.int (1 : Int32))] [(.int (1 : Int32)), (.ref b1), (.long (w 1)), (.int (1 : Int32)), (.ref b1)])) rfl rfl (hb hby own_d_prog_22_method_8_code_23)
  refine OGo.st qz15 ?_
  show OGo p.tables e below _ (T14.setTop (mkF m 24 #[.val (.ref a1), .val (.ref a1), .val (.int (1 : Int32))] [(.long (w 1)), (.long (w 1)), (.int (1 : Int32)), (.ref b1)]))
  refine OGo.st (fun _ k_ => XS.lor X14.here hx rfl (hb hby own_d_prog_22_method_8_code_24) rfl k_) ?_
  show OGo p.tables e below _ (T14.setTop (mkF m 25 #[.val (.ref a1), .val (.ref a1), .val (.int (1 : Int32))] [(.long ((w 1) ||| (w 1))), (.int (1 : Int32)), (.ref b1)]))
  obtain ⟨T16, hz16, X16, ez16, W16, V16, st16⟩ := own_stJ X14 hx hZ ez14 V7 (j := (1 : Int32)) (by decide)  (g := (mkF m 25 #[.val (.ref a1), .val (.ref a1), .val (.int (1 : Int32))] [(.long ((w 1) ||| (w 1))), (.int (1 : Int32)), (.ref b1)])) rfl rfl (hb hby own_d_prog_22_method_8_code_25)
  have F_17 := F_8.other W16 (Or.inl ne_a1_b1)
  have N16 := Fr.snoc X16 N7 g_b1
  have K_18 : Keep h0 hz16 [b1] := K_9.wr W16 (Or.inl (List.mem_of_getElem? (i := 0) rfl))
  refine OGo.st st16 ?_
  show OGo p.tables e below _ (T16.setTop (mkF m 26 #[.val (.ref a1), .val (.ref a1), .val (.int (1 : Int32))] []))
  refine OGo.st (fun _ k_ => XS.iinc X16.here hx rfl (hb hby own_d_prog_22_method_8_code_26) rfl (l' := #[.val (.ref a1), .val (.ref a1), .val (.int (2 : Int32))]) rfl k_) ?_
  show OGo p.tables e below _ (T16.setTop (mkF m 29 #[.val (.ref a1), .val (.ref a1), .val (.int (2 : Int32))] []))
  refine OGo.st (fun _ k_ => XS.goto X16.here hx rfl (pc0 := 29) (pc' := 2) rfl (hb hby own_d_prog_22_method_8_code_29) (by decide) (by decide) k_) ?_
  show OGo p.tables e below _ (T16.setTop (mkF m 2 #[.val (.ref a1), .val (.ref a1), .val (.int (2 : Int32))] []))
  refine OGo.st (fun _ k_ => XS.iloadN X16.here hx rfl (hb hby own_d_prog_22_method_8_code_2) rfl k_) ?_
  show OGo p.tables e below _ (T16.setTop (mkF m 3 #[.val (.ref a1), .val (.ref a1), .val (.int (2 : Int32))] [(.int (2 : Int32))]))
  refine OGo.st (fun _ k_ => XS.aloadN X16.here hx rfl (hb hby own_d_prog_22_method_8_code_3) rfl rfl k_) ?_
  show OGo p.tables e below _ (T16.setTop (mkF m 4 #[.val (.ref a1), .val (.ref a1), .val (.int (2 : Int32))] [(.ref a1), (.int (2 : Int32))]))
  obtain ⟨T19, X19, ez19, st19⟩ := getF X16 hx hZ hown (host := "") (Or.inl (hw _ (List.mem_of_getElem? (i := 10) rfl))) Via.refl ez16 F_17 (g := (mkF m 4 #[.val (.ref a1), .val (.ref a1), .val (.int (2 : Int32))] [(.ref a1), (.int (2 : Int32))])) rfl rfl (hb hby own_d_prog_22_method_8_code_4)
  refine OGo.st st19 ?_
  show OGo p.tables e below _ (T19.setTop (mkF m 7 #[.val (.ref a1), .val (.ref a1), .val (.int (2 : Int32))] [(.ref b1), (.int (2 : Int32))]))
  have qz20 := own_alen X19 hx hZ ez19 V16 (g := (mkF m 7 #[.val (.ref a1), .val (.ref a1), .val (.int (2 : Int32))] [(.ref b1), (.int (2 : Int32))])) rfl rfl (hb hby own_d_prog_22_method_8_code_7)
  refine OGo.st qz20 ?_
  show OGo p.tables e below _ (T19.setTop (mkF m 8 #[.val (.ref a1), .val (.ref a1), .val (.int (2 : Int32))] [(.int (4 : Int32)), (.int (2 : Int32))]))
  refine OGo.st (fun _ k_ => XS.icmpNo X19.here hx rfl (hb hby own_d_prog_22_method_8_code_8) rfl (XT.ii_ge_f (by decide)) k_) ?_
  show OGo p.tables e below _ (T19.setTop (mkF m 11 #[.val (.ref a1), .val (.ref a1), .val (.int (2 : Int32))] []))
  refine OGo.st (fun _ k_ => XS.aloadN X19.here hx rfl (hb hby own_d_prog_22_method_8_code_11) rfl rfl k_) ?_
  show OGo p.tables e below _ (T19.setTop (mkF m 12 #[.val (.ref a1), .val (.ref a1), .val (.int (2 : Int32))] [(.ref a1)]))
  obtain ⟨T21, X21, ez21, st21⟩ := getF X19 hx hZ hown (host := "") (Or.inl (hw _ (List.mem_of_getElem? (i := 10) rfl))) Via.refl ez19 F_17 (g := (mkF m 12 #[.val (.ref a1), .val (.ref a1), .val (.int (2 : Int32))] [(.ref a1)])) rfl rfl (hb hby own_d_prog_22_method_8_code_12)
  refine OGo.st st21 ?_
  show OGo p.tables e below _ (T21.setTop (mkF m 15 #[.val (.ref a1), .val (.ref a1), .val (.int (2 : Int32))] [(.ref b1)]))
  refine OGo.st (fun _ k_ => XS.iloadN X21.here hx rfl (hb hby own_d_prog_22_method_8_code_15) rfl k_) ?_
  show OGo p.tables e below _ (T21.setTop (mkF m 16 #[.val (.ref a1), .val (.ref a1), .val (.int (2 : Int32))] [(.int (2 : Int32)), (.ref b1)]))
  refine OGo.st (fun _ k_ => XT.dup2 X21.here hx rfl (hb hby own_d_prog_22_method_8_code_16) rfl rfl rfl k_) ?_
  show OGo p.tables e below _ (T21.setTop (mkF m 17 #[.val (.ref a1), .val (.ref a1), .val (.int (2 : Int32))] [(.int (2 : Int32)), (.ref b1), (.int (2 : Int32)), (.ref b1)]))
  have qz22 := own_ldJ X21 hx hZ ez21 V16 (j := (2 : Int32)) (v := (w 2)) (by decide) rfl (g := (mkF m 17 #[.val (.ref a1), .val (.ref a1), .val (.int (2 : Int32))] [(.int (2 : Int32)), (.ref b1), (.int (2 : Int32)), (.ref b1)])) rfl rfl (hb hby own_d_prog_22_method_8_code_17)
  refine OGo.st qz22 ?_
  show OGo p.tables e below _ (T21.setTop (mkF m 18 #[.val (.ref a1), .val (.ref a1), .val (.int (2 : Int32))] [(.long (w 2)), (.int (2 : Int32)), (.ref b1)]))
  refine OGo.st (fun _ k_ => XS.aloadN X21.here hx rfl (hb hby own_d_prog_22_method_8_code_18) rfl rfl k_) ?_
  show OGo p.tables e below _ (T21.setTop (mkF m 19 #[.val (.ref a1), .val (.ref a1), .val (.int (2 : Int32))] [(.ref a1), (.long (w 2)), (.int (2 : Int32)), (.ref b1)]))
  obtain ⟨T23, X23, ez23, st23⟩ := getF X21 hx hZ hown (host := "") (Or.inl (hw _ (List.mem_of_getElem? (i := 10) rfl))) Via.refl ez21 F_17 (g := (mkF m 19 #[.val (.ref a1), .val (.ref a1), .val (.int (2 : Int32))] [(.ref a1), (.long (w 2)), (.int (2 : Int32)), (.ref b1)])) rfl rfl (hb hby own_d_prog_22_method_8_code_19)
  refine OGo.st st23 ?_
  show OGo p.tables e below _ (T23.setTop (mkF m 22 #[.val (.ref a1), .val (.ref a1), .val (.int (2 : Int32))] [(.ref b1), (.long (w 2)), (.int (2 : Int32)), (.ref b1)]))
  refine OGo.st (fun _ k_ => XS.iloadN X23.here hx rfl (hb hby own_d_prog_22_method_8_code_22) rfl k_) ?_
  show OGo p.tables e below _ (T23.setTop (mkF m 23 #[.val (.ref a1), .val (.ref a1), .val (.int (2 : Int32))] [(.int (2 : Int32)), (.ref b1), (.long (w 2)), (.int (2 : Int32)), (.ref b1)]))
  have qz24 := own_ldJ X23 hx hZ ez23 V16 (j := (2 : Int32)) (v := (w 2)) (by decide) rfl (g := (mkF m 23 #[.val (.ref a1), .val (.ref a1), .val (.int (2 : Int32))] [(.int (2 : Int32)), (.ref b1), (.long (w 2)), (.int (2 : Int32)), (.ref b1)])) rfl rfl (hb hby own_d_prog_22_method_8_code_23)
  refine OGo.st qz24 ?_
  show OGo p.tables e below _ (T23.setTop (mkF m 24 #[.val (.ref a1), .val (.ref a1), .val (.int (2 : Int32))] [(.long (w 2)), (.long (w 2)), (.int (2 : Int32)), (.ref b1)]))
  refine OGo.st (fun _ k_ => XS.lor X23.here hx rfl (hb hby own_d_prog_22_method_8_code_24) rfl k_) ?_
  show OGo p.tables e below _ (T23.setTop (mkF m 25 #[.val (.ref a1), .val (.ref a1), .val (.int (2 : Int32))] [(.long ((w 2) ||| (w 2))), (.int (2 : Int32)), (.ref b1)]))
  obtain ⟨T25, hz25, X25, ez25, W25, V25, st25⟩ := own_stJ X23 hx hZ ez23 V16 (j := (2 : Int32)) (by decide)  (g := (mkF m 25 #[.val (.ref a1), .val (.ref a1), .val (.int (2 : Int32))] [(.long ((w 2) ||| (w 2))), (.int (2 : Int32)), (.ref b1)])) rfl rfl (hb hby own_d_prog_22_method_8_code_25)
  have F_26 := F_17.other W25 (Or.inl ne_a1_b1)
  have N25 := Fr.snoc X25 N16 g_b1
  have K_27 : Keep h0 hz25 [b1] := K_18.wr W25 (Or.inl (List.mem_of_getElem? (i := 0) rfl))
  refine OGo.st st25 ?_
  show OGo p.tables e below _ (T25.setTop (mkF m 26 #[.val (.ref a1), .val (.ref a1), .val (.int (2 : Int32))] []))
  refine OGo.st (fun _ k_ => XS.iinc X25.here hx rfl (hb hby own_d_prog_22_method_8_code_26) rfl (l' := #[.val (.ref a1), .val (.ref a1), .val (.int (3 : Int32))]) rfl k_) ?_
  show OGo p.tables e below _ (T25.setTop (mkF m 29 #[.val (.ref a1), .val (.ref a1), .val (.int (3 : Int32))] []))
  refine OGo.st (fun _ k_ => XS.goto X25.here hx rfl (pc0 := 29) (pc' := 2) rfl (hb hby own_d_prog_22_method_8_code_29) (by decide) (by decide) k_) ?_
  show OGo p.tables e below _ (T25.setTop (mkF m 2 #[.val (.ref a1), .val (.ref a1), .val (.int (3 : Int32))] []))
  refine OGo.st (fun _ k_ => XS.iloadN X25.here hx rfl (hb hby own_d_prog_22_method_8_code_2) rfl k_) ?_
  show OGo p.tables e below _ (T25.setTop (mkF m 3 #[.val (.ref a1), .val (.ref a1), .val (.int (3 : Int32))] [(.int (3 : Int32))]))
  refine OGo.st (fun _ k_ => XS.aloadN X25.here hx rfl (hb hby own_d_prog_22_method_8_code_3) rfl rfl k_) ?_
  show OGo p.tables e below _ (T25.setTop (mkF m 4 #[.val (.ref a1), .val (.ref a1), .val (.int (3 : Int32))] [(.ref a1), (.int (3 : Int32))]))
  obtain ⟨T28, X28, ez28, st28⟩ := getF X25 hx hZ hown (host := "") (Or.inl (hw _ (List.mem_of_getElem? (i := 10) rfl))) Via.refl ez25 F_26 (g := (mkF m 4 #[.val (.ref a1), .val (.ref a1), .val (.int (3 : Int32))] [(.ref a1), (.int (3 : Int32))])) rfl rfl (hb hby own_d_prog_22_method_8_code_4)
  refine OGo.st st28 ?_
  show OGo p.tables e below _ (T28.setTop (mkF m 7 #[.val (.ref a1), .val (.ref a1), .val (.int (3 : Int32))] [(.ref b1), (.int (3 : Int32))]))
  have qz29 := own_alen X28 hx hZ ez28 V25 (g := (mkF m 7 #[.val (.ref a1), .val (.ref a1), .val (.int (3 : Int32))] [(.ref b1), (.int (3 : Int32))])) rfl rfl (hb hby own_d_prog_22_method_8_code_7)
  refine OGo.st qz29 ?_
  show OGo p.tables e below _ (T28.setTop (mkF m 8 #[.val (.ref a1), .val (.ref a1), .val (.int (3 : Int32))] [(.int (4 : Int32)), (.int (3 : Int32))]))
  refine OGo.st (fun _ k_ => XS.icmpNo X28.here hx rfl (hb hby own_d_prog_22_method_8_code_8) rfl (XT.ii_ge_f (by decide)) k_) ?_
  show OGo p.tables e below _ (T28.setTop (mkF m 11 #[.val (.ref a1), .val (.ref a1), .val (.int (3 : Int32))] []))
  refine OGo.st (fun _ k_ => XS.aloadN X28.here hx rfl (hb hby own_d_prog_22_method_8_code_11) rfl rfl k_) ?_
  show OGo p.tables e below _ (T28.setTop (mkF m 12 #[.val (.ref a1), .val (.ref a1), .val (.int (3 : Int32))] [(.ref a1)]))
  obtain ⟨T30, X30, ez30, st30⟩ := getF X28 hx hZ hown (host := "") (Or.inl (hw _ (List.mem_of_getElem? (i := 10) rfl))) Via.refl ez28 F_26 (g := (mkF m 12 #[.val (.ref a1), .val (.ref a1), .val (.int (3 : Int32))] [(.ref a1)])) rfl rfl (hb hby own_d_prog_22_method_8_code_12)
  refine OGo.st st30 ?_
  show OGo p.tables e below _ (T30.setTop (mkF m 15 #[.val (.ref a1), .val (.ref a1), .val (.int (3 : Int32))] [(.ref b1)]))
  refine OGo.st (fun _ k_ => XS.iloadN X30.here hx rfl (hb hby own_d_prog_22_method_8_code_15) rfl k_) ?_
  show OGo p.tables e below _ (T30.setTop (mkF m 16 #[.val (.ref a1), .val (.ref a1), .val (.int (3 : Int32))] [(.int (3 : Int32)), (.ref b1)]))
  refine OGo.st (fun _ k_ => XT.dup2 X30.here hx rfl (hb hby own_d_prog_22_method_8_code_16) rfl rfl rfl k_) ?_
  show OGo p.tables e below _ (T30.setTop (mkF m 17 #[.val (.ref a1), .val (.ref a1), .val (.int (3 : Int32))] [(.int (3 : Int32)), (.ref b1), (.int (3 : Int32)), (.ref b1)]))
  have qz31 := own_ldJ X30 hx hZ ez30 V25 (j := (3 : Int32)) (v := (w 3)) (by decide) rfl (g := (mkF m 17 #[.val (.ref a1), .val (.ref a1), .val (.int (3 : Int32))] [(.int (3 : Int32)), (.ref b1), (.int (3 : Int32)), (.ref b1)])) rfl rfl (hb hby own_d_prog_22_method_8_code_17)
  refine OGo.st qz31 ?_
  show OGo p.tables e below _ (T30.setTop (mkF m 18 #[.val (.ref a1), .val (.ref a1), .val (.int (3 : Int32))] [(.long (w 3)), (.int (3 : Int32)), (.ref b1)]))
  refine OGo.st (fun _ k_ => XS.aloadN X30.here hx rfl (hb hby own_d_prog_22_method_8_code_18) rfl rfl k_) ?_
  show OGo p.tables e below _ (T30.setTop (mkF m 19 #[.val (.ref a1), .val (.ref a1), .val (.int (3 : Int32))] [(.ref a1), (.long (w 3)), (.int (3 : Int32)), (.ref b1)]))
  obtain ⟨T32, X32, ez32, st32⟩ := getF X30 hx hZ hown (host := "") (Or.inl (hw _ (List.mem_of_getElem? (i := 10) rfl))) Via.refl ez30 F_26 (g := (mkF m 19 #[.val (.ref a1), .val (.ref a1), .val (.int (3 : Int32))] [(.ref a1), (.long (w 3)), (.int (3 : Int32)), (.ref b1)])) rfl rfl (hb hby own_d_prog_22_method_8_code_19)
  refine OGo.st st32 ?_
  show OGo p.tables e below _ (T32.setTop (mkF m 22 #[.val (.ref a1), .val (.ref a1), .val (.int (3 : Int32))] [(.ref b1), (.long (w 3)), (.int (3 : Int32)), (.ref b1)]))
  refine OGo.st (fun _ k_ => XS.iloadN X32.here hx rfl (hb hby own_d_prog_22_method_8_code_22) rfl k_) ?_
  show OGo p.tables e below _ (T32.setTop (mkF m 23 #[.val (.ref a1), .val (.ref a1), .val (.int (3 : Int32))] [(.int (3 : Int32)), (.ref b1), (.long (w 3)), (.int (3 : Int32)), (.ref b1)]))
  have qz33 := own_ldJ X32 hx hZ ez32 V25 (j := (3 : Int32)) (v := (w 3)) (by decide) rfl (g := (mkF m 23 #[.val (.ref a1), .val (.ref a1), .val (.int (3 : Int32))] [(.int (3 : Int32)), (.ref b1), (.long (w 3)), (.int (3 : Int32)), (.ref b1)])) rfl rfl (hb hby own_d_prog_22_method_8_code_23)
  refine OGo.st qz33 ?_
  show OGo p.tables e below _ (T32.setTop (mkF m 24 #[.val (.ref a1), .val (.ref a1), .val (.int (3 : Int32))] [(.long (w 3)), (.long (w 3)), (.int (3 : Int32)), (.ref b1)]))
  refine OGo.st (fun _ k_ => XS.lor X32.here hx rfl (hb hby own_d_prog_22_method_8_code_24) rfl k_) ?_
  show OGo p.tables e below _ (T32.setTop (mkF m 25 #[.val (.ref a1), .val (.ref a1), .val (.int (3 : Int32))] [(.long ((w 3) ||| (w 3))), (.int (3 : Int32)), (.ref b1)]))
  obtain ⟨T34, hz34, X34, ez34, W34, V34, st34⟩ := own_stJ X32 hx hZ ez32 V25 (j := (3 : Int32)) (by decide)  (g := (mkF m 25 #[.val (.ref a1), .val (.ref a1), .val (.int (3 : Int32))] [(.long ((w 3) ||| (w 3))), (.int (3 : Int32)), (.ref b1)])) rfl rfl (hb hby own_d_prog_22_method_8_code_25)
  have F_35 := F_26.other W34 (Or.inl ne_a1_b1)
  have N34 := Fr.snoc X34 N25 g_b1
  have K_36 : Keep h0 hz34 [b1] := K_27.wr W34 (Or.inl (List.mem_of_getElem? (i := 0) rfl))
  refine OGo.st st34 ?_
  show OGo p.tables e below _ (T34.setTop (mkF m 26 #[.val (.ref a1), .val (.ref a1), .val (.int (3 : Int32))] []))
  refine OGo.st (fun _ k_ => XS.iinc X34.here hx rfl (hb hby own_d_prog_22_method_8_code_26) rfl (l' := #[.val (.ref a1), .val (.ref a1), .val (.int (4 : Int32))]) rfl k_) ?_
  show OGo p.tables e below _ (T34.setTop (mkF m 29 #[.val (.ref a1), .val (.ref a1), .val (.int (4 : Int32))] []))
  refine OGo.st (fun _ k_ => XS.goto X34.here hx rfl (pc0 := 29) (pc' := 2) rfl (hb hby own_d_prog_22_method_8_code_29) (by decide) (by decide) k_) ?_
  show OGo p.tables e below _ (T34.setTop (mkF m 2 #[.val (.ref a1), .val (.ref a1), .val (.int (4 : Int32))] []))
  refine OGo.st (fun _ k_ => XS.iloadN X34.here hx rfl (hb hby own_d_prog_22_method_8_code_2) rfl k_) ?_
  show OGo p.tables e below _ (T34.setTop (mkF m 3 #[.val (.ref a1), .val (.ref a1), .val (.int (4 : Int32))] [(.int (4 : Int32))]))
  refine OGo.st (fun _ k_ => XS.aloadN X34.here hx rfl (hb hby own_d_prog_22_method_8_code_3) rfl rfl k_) ?_
  show OGo p.tables e below _ (T34.setTop (mkF m 4 #[.val (.ref a1), .val (.ref a1), .val (.int (4 : Int32))] [(.ref a1), (.int (4 : Int32))]))
  obtain ⟨T37, X37, ez37, st37⟩ := getF X34 hx hZ hown (host := "") (Or.inl (hw _ (List.mem_of_getElem? (i := 10) rfl))) Via.refl ez34 F_35 (g := (mkF m 4 #[.val (.ref a1), .val (.ref a1), .val (.int (4 : Int32))] [(.ref a1), (.int (4 : Int32))])) rfl rfl (hb hby own_d_prog_22_method_8_code_4)
  refine OGo.st st37 ?_
  show OGo p.tables e below _ (T37.setTop (mkF m 7 #[.val (.ref a1), .val (.ref a1), .val (.int (4 : Int32))] [(.ref b1), (.int (4 : Int32))]))
  have qz38 := own_alen X37 hx hZ ez37 V34 (g := (mkF m 7 #[.val (.ref a1), .val (.ref a1), .val (.int (4 : Int32))] [(.ref b1), (.int (4 : Int32))])) rfl rfl (hb hby own_d_prog_22_method_8_code_7)
  refine OGo.st qz38 ?_
  show OGo p.tables e below _ (T37.setTop (mkF m 8 #[.val (.ref a1), .val (.ref a1), .val (.int (4 : Int32))] [(.int (4 : Int32)), (.int (4 : Int32))]))
  refine OGo.st (fun _ k_ => XS.icmpYes X37.here hx rfl (pc0 := 8) (pc' := 32) rfl (hb hby own_d_prog_22_method_8_code_8) rfl (XT.ii_ge_t (by decide)) (by decide) (by decide) k_) ?_
  have Af_39 : Arf Z hz34 b1 k1 .long 4 (own_L w) := V34.congr (fun i hi => match i, hi with | 0, _ => (congrArg Value.long (Int64.or_self)) | 1, _ => (congrArg Value.long (Int64.or_self)) | 2, _ => (congrArg Value.long (Int64.or_self)) | 3, _ => (congrArg Value.long (Int64.or_self)) | (n_ + 4), q_ => absurd q_ (by show ¬ n_ + 4 < 4; omega))
  show OGo p.tables e below _ (T37.setTop (mkF m 32 #[.val (.ref a1), .val (.ref a1), .val (.int (4 : Int32))] []))
  refine OGo.fin X37 (v := none) (fun _ => rfl) hlk (fun fs hr => X37.returnOut hx Bd.returns (hb hby own_d_prog_22_method_8_code_32) hr) ?_ (by decide) (by decide)
  show own_Q_rm4 Z a1 b1 k1 w h0 n0 _ T37.heap _
  rw [ez37]
  exact ⟨rfl, N34, K_36, Af_39⟩
theorem own_ef_rm5 (m : MethodId) (x0 : Addr) (x1 : Addr) : entryFrame m #[(.ref x0), (.ref x1)] 3 = mkF m 0 #[.val (.ref x0), .val (.ref x1), .unset] [] := by first | (simp [entryFrame, mkF, argsToLocals, Value.category]; done) | rfl
def own_Q_rm5 (Z : State) (a1 : Addr) (a2 : Addr) (b1 : Addr) (k1 : ClassId) (w : Nat → Int64) (b2 : Addr) (k2 : ClassId) (w2 : Nat → Int64) (h0 : Heap) (n0 : Nat) (v : Option Value) (h : Heap) (L : List Loc) : Prop := v = none ∧ Fr n0 L ∧ Keep h0 h [b1] ∧ Arf Z h b1 k1 .long 4 (own_L (fun i => w i ||| w2 i))
set_option maxRecDepth 65536 in
set_option maxHeartbeats 40000000 in
theorem rm5 (l : Launch) (Z : State) (a0 : Array Value) (hw : ∀ d ∈ tables_1, d.before a0 Z = true) (ws : List Jvm.Cond) (a1 : Addr) (a2 : Addr) (b1 : Addr) (k1 : ClassId) (w : Nat → Int64) (b2 : Addr) (k2 : ClassId) (w2 : Nat → Int64) (h0 : Heap) (n0 : Nat) (Z0 : n0 ≤ h0.size) (F_words_a1 : Fld Z h0 a1 "com/example/locator/locator/ByteSet" "words" "[J" (.ref b1)) (A_b1 : Arf Z h0 b1 k1 .long 4 (own_L w)) (g_b1 : n0 ≤ b1) (ne_a1_b1 : a1 ≠ b1) (F_words_a2 : Fld Z h0 a2 "com/example/locator/locator/ByteSet" "words" "[J" (.ref b2)) (A_b2 : Arf Z h0 b2 k2 .long 4 (own_L w2)) (ne_a2_b1 : a2 ≠ b1) (ne_b2_b1 : b2 ≠ b1) :
    OMet l Z (⟨"com/example/locator/locator/ByteSet", "addAll", "(Lcom/example/locator/locator/ByteSet;)V"⟩ : MethodName) prog_22_method_8_code 3 none ws ({ frames := 0, cells := 0, slots := 0, locals := 0 } : Room) #[(.ref a1), (.ref a2)] h0 (own_Q_rm5 Z a1 a2 b1 k1 w b2 k2 w2 h0 n0) := by
  refine MetFree.of_bodySF (plainFor_of_name own_pn0) hisR ?_
  intro p e s m args below meth c s₁ Bd hml0 hP hK
  obtain ⟨rfl, hZ, hh⟩ := hP
  have hx := Bd.exec
  have hby := Bd.bytes
  have hml : c.maxLocals = 3 := hml0
  have hown : s.vm.findClass "com/example/locator/locator/ByteSet" = some m.cls := findClass_of_methodNamed Bd.named
  have hnm := (name_of_methodNamed Bd.named Bd.method).1
  have hlk : meth.locks = false := Bd.notSynchronized
  have X0 : Stand p l e ({ frames := 0, cells := 0, slots := 0, locals := 0 } : Room) s m #[(.ref a1), (.ref a2)] below meth c s₁ [] 0 0 := Stand.of_body Bd
  have e0 : s₁.heap = h0 := by rw [← hh, Bd.state]; rfl
  have N0 := Fr.nil n0
  refine OGo.enter (P := OPost s (own_Q_rm5 Z a1 a2 b1 k1 w b2 k2 w2 h0 n0) 0 0) (own_ef_rm5 m a1 a2) ?_
  show OGo p.tables e below _ (s₁.setTop (mkF m 0 #[.val (.ref a1), .val (.ref a2), .unset] []))
  refine OGo.st (fun _ k_ => XS.iconst X0.here hx rfl (hb hby own_d_prog_22_method_8_code_0) k_) ?_
  show OGo p.tables e below _ (s₁.setTop (mkF m 1 #[.val (.ref a1), .val (.ref a2), .unset] [(.int (0 : Int32))]))
  refine OGo.st (fun _ k_ => XS.istoreN X0.here hx rfl (hb hby own_d_prog_22_method_8_code_1) rfl (l' := #[.val (.ref a1), .val (.ref a2), .val (.int (0 : Int32))]) rfl k_) ?_
  show OGo p.tables e below _ (s₁.setTop (mkF m 2 #[.val (.ref a1), .val (.ref a2), .val (.int (0 : Int32))] []))
  refine OGo.st (fun _ k_ => XS.iloadN X0.here hx rfl (hb hby own_d_prog_22_method_8_code_2) rfl k_) ?_
  show OGo p.tables e below _ (s₁.setTop (mkF m 3 #[.val (.ref a1), .val (.ref a2), .val (.int (0 : Int32))] [(.int (0 : Int32))]))
  refine OGo.st (fun _ k_ => XS.aloadN X0.here hx rfl (hb hby own_d_prog_22_method_8_code_3) rfl rfl k_) ?_
  show OGo p.tables e below _ (s₁.setTop (mkF m 4 #[.val (.ref a1), .val (.ref a2), .val (.int (0 : Int32))] [(.ref a1), (.int (0 : Int32))]))
  obtain ⟨T1, X1, ez1, st1⟩ := getF X0 hx hZ hown (host := "") (Or.inl (hw _ (List.mem_of_getElem? (i := 10) rfl))) Via.refl e0 F_words_a1 (g := (mkF m 4 #[.val (.ref a1), .val (.ref a2), .val (.int (0 : Int32))] [(.ref a1), (.int (0 : Int32))])) rfl rfl (hb hby own_d_prog_22_method_8_code_4)
  refine OGo.st st1 ?_
  show OGo p.tables e below _ (T1.setTop (mkF m 7 #[.val (.ref a1), .val (.ref a2), .val (.int (0 : Int32))] [(.ref b1), (.int (0 : Int32))]))
  have qz2 := own_alen X1 hx hZ ez1 A_b1 (g := (mkF m 7 #[.val (.ref a1), .val (.ref a2), .val (.int (0 : Int32))] [(.ref b1), (.int (0 : Int32))])) rfl rfl (hb hby own_d_prog_22_method_8_code_7)
  refine OGo.st qz2 ?_
  show OGo p.tables e below _ (T1.setTop (mkF m 8 #[.val (.ref a1), .val (.ref a2), .val (.int (0 : Int32))] [(.int (4 : Int32)), (.int (0 : Int32))]))
  refine OGo.st (fun _ k_ => XS.icmpNo X1.here hx rfl (hb hby own_d_prog_22_method_8_code_8) rfl (XT.ii_ge_f (by decide)) k_) ?_
  show OGo p.tables e below _ (T1.setTop (mkF m 11 #[.val (.ref a1), .val (.ref a2), .val (.int (0 : Int32))] []))
  refine OGo.st (fun _ k_ => XS.aloadN X1.here hx rfl (hb hby own_d_prog_22_method_8_code_11) rfl rfl k_) ?_
  show OGo p.tables e below _ (T1.setTop (mkF m 12 #[.val (.ref a1), .val (.ref a2), .val (.int (0 : Int32))] [(.ref a1)]))
  obtain ⟨T3, X3, ez3, st3⟩ := getF X1 hx hZ hown (host := "") (Or.inl (hw _ (List.mem_of_getElem? (i := 10) rfl))) Via.refl ez1 F_words_a1 (g := (mkF m 12 #[.val (.ref a1), .val (.ref a2), .val (.int (0 : Int32))] [(.ref a1)])) rfl rfl (hb hby own_d_prog_22_method_8_code_12)
  refine OGo.st st3 ?_
  show OGo p.tables e below _ (T3.setTop (mkF m 15 #[.val (.ref a1), .val (.ref a2), .val (.int (0 : Int32))] [(.ref b1)]))
  refine OGo.st (fun _ k_ => XS.iloadN X3.here hx rfl (hb hby own_d_prog_22_method_8_code_15) rfl k_) ?_
  show OGo p.tables e below _ (T3.setTop (mkF m 16 #[.val (.ref a1), .val (.ref a2), .val (.int (0 : Int32))] [(.int (0 : Int32)), (.ref b1)]))
  refine OGo.st (fun _ k_ => XT.dup2 X3.here hx rfl (hb hby own_d_prog_22_method_8_code_16) rfl rfl rfl k_) ?_
  show OGo p.tables e below _ (T3.setTop (mkF m 17 #[.val (.ref a1), .val (.ref a2), .val (.int (0 : Int32))] [(.int (0 : Int32)), (.ref b1), (.int (0 : Int32)), (.ref b1)]))
  have qz4 := own_ldJ X3 hx hZ ez3 A_b1 (j := (0 : Int32)) (v := (w 0)) (by decide) rfl (g := (mkF m 17 #[.val (.ref a1), .val (.ref a2), .val (.int (0 : Int32))] [(.int (0 : Int32)), (.ref b1), (.int (0 : Int32)), (.ref b1)])) rfl rfl (hb hby own_d_prog_22_method_8_code_17)
  refine OGo.st qz4 ?_
  show OGo p.tables e below _ (T3.setTop (mkF m 18 #[.val (.ref a1), .val (.ref a2), .val (.int (0 : Int32))] [(.long (w 0)), (.int (0 : Int32)), (.ref b1)]))
  refine OGo.st (fun _ k_ => XS.aloadN X3.here hx rfl (hb hby own_d_prog_22_method_8_code_18) rfl rfl k_) ?_
  show OGo p.tables e below _ (T3.setTop (mkF m 19 #[.val (.ref a1), .val (.ref a2), .val (.int (0 : Int32))] [(.ref a2), (.long (w 0)), (.int (0 : Int32)), (.ref b1)]))
  obtain ⟨T5, X5, ez5, st5⟩ := getF X3 hx hZ hown (host := "") (Or.inl (hw _ (List.mem_of_getElem? (i := 10) rfl))) Via.refl ez3 F_words_a2 (g := (mkF m 19 #[.val (.ref a1), .val (.ref a2), .val (.int (0 : Int32))] [(.ref a2), (.long (w 0)), (.int (0 : Int32)), (.ref b1)])) rfl rfl (hb hby own_d_prog_22_method_8_code_19)
  refine OGo.st st5 ?_
  show OGo p.tables e below _ (T5.setTop (mkF m 22 #[.val (.ref a1), .val (.ref a2), .val (.int (0 : Int32))] [(.ref b2), (.long (w 0)), (.int (0 : Int32)), (.ref b1)]))
  refine OGo.st (fun _ k_ => XS.iloadN X5.here hx rfl (hb hby own_d_prog_22_method_8_code_22) rfl k_) ?_
  show OGo p.tables e below _ (T5.setTop (mkF m 23 #[.val (.ref a1), .val (.ref a2), .val (.int (0 : Int32))] [(.int (0 : Int32)), (.ref b2), (.long (w 0)), (.int (0 : Int32)), (.ref b1)]))
  have qz6 := own_ldJ X5 hx hZ ez5 A_b2 (j := (0 : Int32)) (v := (w2 0)) (by decide) rfl (g := (mkF m 23 #[.val (.ref a1), .val (.ref a2), .val (.int (0 : Int32))] [(.int (0 : Int32)), (.ref b2), (.long (w 0)), (.int (0 : Int32)), (.ref b1)])) rfl rfl (hb hby own_d_prog_22_method_8_code_23)
  refine OGo.st qz6 ?_
  show OGo p.tables e below _ (T5.setTop (mkF m 24 #[.val (.ref a1), .val (.ref a2), .val (.int (0 : Int32))] [(.long (w2 0)), (.long (w 0)), (.int (0 : Int32)), (.ref b1)]))
  refine OGo.st (fun _ k_ => XS.lor X5.here hx rfl (hb hby own_d_prog_22_method_8_code_24) rfl k_) ?_
  show OGo p.tables e below _ (T5.setTop (mkF m 25 #[.val (.ref a1), .val (.ref a2), .val (.int (0 : Int32))] [(.long ((w 0) ||| (w2 0))), (.int (0 : Int32)), (.ref b1)]))
  obtain ⟨T7, hz7, X7, ez7, W7, V7, st7⟩ := own_stJ X5 hx hZ ez5 A_b1 (j := (0 : Int32)) (by decide)  (g := (mkF m 25 #[.val (.ref a1), .val (.ref a2), .val (.int (0 : Int32))] [(.long ((w 0) ||| (w2 0))), (.int (0 : Int32)), (.ref b1)])) rfl rfl (hb hby own_d_prog_22_method_8_code_25)
  have F_8 := F_words_a1.other W7 (Or.inl ne_a1_b1)
  have F_9 := F_words_a2.other W7 (Or.inl ne_a2_b1)
  have Af_10 := A_b2.other W7 ne_b2_b1
  have N7 := Fr.snoc X7 N0 g_b1
  have K_11 : Keep h0 hz7 [b1] := (Keep.refl h0 [b1]).wr W7 (Or.inl (List.mem_of_getElem? (i := 0) rfl))
  refine OGo.st st7 ?_
  show OGo p.tables e below _ (T7.setTop (mkF m 26 #[.val (.ref a1), .val (.ref a2), .val (.int (0 : Int32))] []))
  refine OGo.st (fun _ k_ => XS.iinc X7.here hx rfl (hb hby own_d_prog_22_method_8_code_26) rfl (l' := #[.val (.ref a1), .val (.ref a2), .val (.int (1 : Int32))]) rfl k_) ?_
  show OGo p.tables e below _ (T7.setTop (mkF m 29 #[.val (.ref a1), .val (.ref a2), .val (.int (1 : Int32))] []))
  refine OGo.st (fun _ k_ => XS.goto X7.here hx rfl (pc0 := 29) (pc' := 2) rfl (hb hby own_d_prog_22_method_8_code_29) (by decide) (by decide) k_) ?_
  show OGo p.tables e below _ (T7.setTop (mkF m 2 #[.val (.ref a1), .val (.ref a2), .val (.int (1 : Int32))] []))
  refine OGo.st (fun _ k_ => XS.iloadN X7.here hx rfl (hb hby own_d_prog_22_method_8_code_2) rfl k_) ?_
  show OGo p.tables e below _ (T7.setTop (mkF m 3 #[.val (.ref a1), .val (.ref a2), .val (.int (1 : Int32))] [(.int (1 : Int32))]))
  refine OGo.st (fun _ k_ => XS.aloadN X7.here hx rfl (hb hby own_d_prog_22_method_8_code_3) rfl rfl k_) ?_
  show OGo p.tables e below _ (T7.setTop (mkF m 4 #[.val (.ref a1), .val (.ref a2), .val (.int (1 : Int32))] [(.ref a1), (.int (1 : Int32))]))
  obtain ⟨T12, X12, ez12, st12⟩ := getF X7 hx hZ hown (host := "") (Or.inl (hw _ (List.mem_of_getElem? (i := 10) rfl))) Via.refl ez7 F_8 (g := (mkF m 4 #[.val (.ref a1), .val (.ref a2), .val (.int (1 : Int32))] [(.ref a1), (.int (1 : Int32))])) rfl rfl (hb hby own_d_prog_22_method_8_code_4)
  refine OGo.st st12 ?_
  show OGo p.tables e below _ (T12.setTop (mkF m 7 #[.val (.ref a1), .val (.ref a2), .val (.int (1 : Int32))] [(.ref b1), (.int (1 : Int32))]))
  have qz13 := own_alen X12 hx hZ ez12 V7 (g := (mkF m 7 #[.val (.ref a1), .val (.ref a2), .val (.int (1 : Int32))] [(.ref b1), (.int (1 : Int32))])) rfl rfl (hb hby own_d_prog_22_method_8_code_7)
  refine OGo.st qz13 ?_
  show OGo p.tables e below _ (T12.setTop (mkF m 8 #[.val (.ref a1), .val (.ref a2), .val (.int (1 : Int32))] [(.int (4 : Int32)), (.int (1 : Int32))]))
  refine OGo.st (fun _ k_ => XS.icmpNo X12.here hx rfl (hb hby own_d_prog_22_method_8_code_8) rfl (XT.ii_ge_f (by decide)) k_) ?_
  show OGo p.tables e below _ (T12.setTop (mkF m 11 #[.val (.ref a1), .val (.ref a2), .val (.int (1 : Int32))] []))
  refine OGo.st (fun _ k_ => XS.aloadN X12.here hx rfl (hb hby own_d_prog_22_method_8_code_11) rfl rfl k_) ?_
  show OGo p.tables e below _ (T12.setTop (mkF m 12 #[.val (.ref a1), .val (.ref a2), .val (.int (1 : Int32))] [(.ref a1)]))
  obtain ⟨T14, X14, ez14, st14⟩ := getF X12 hx hZ hown (host := "") (Or.inl (hw _ (List.mem_of_getElem? (i := 10) rfl))) Via.refl ez12 F_8 (g := (mkF m 12 #[.val (.ref a1), .val (.ref a2), .val (.int (1 : Int32))] [(.ref a1)])) rfl rfl (hb hby own_d_prog_22_method_8_code_12)
  refine OGo.st st14 ?_
  show OGo p.tables e below _ (T14.setTop (mkF m 15 #[.val (.ref a1), .val (.ref a2), .val (.int (1 : Int32))] [(.ref b1)]))
  refine OGo.st (fun _ k_ => XS.iloadN X14.here hx rfl (hb hby own_d_prog_22_method_8_code_15) rfl k_) ?_
  show OGo p.tables e below _ (T14.setTop (mkF m 16 #[.val (.ref a1), .val (.ref a2), .val (.int (1 : Int32))] [(.int (1 : Int32)), (.ref b1)]))
  refine OGo.st (fun _ k_ => XT.dup2 X14.here hx rfl (hb hby own_d_prog_22_method_8_code_16) rfl rfl rfl k_) ?_
  show OGo p.tables e below _ (T14.setTop (mkF m 17 #[.val (.ref a1), .val (.ref a2), .val (.int (1 : Int32))] [(.int (1 : Int32)), (.ref b1), (.int (1 : Int32)), (.ref b1)]))
  have qz15 := own_ldJ X14 hx hZ ez14 V7 (j := (1 : Int32)) (v := (w 1)) (by decide) rfl (g := (mkF m 17 #[.val (.ref a1), .val (.ref a2), .val (.int (1 : Int32))] [(.int (1 : Int32)), (.ref b1), (.int (1 : Int32)), (.ref b1)])) rfl rfl (hb hby own_d_prog_22_method_8_code_17)
  refine OGo.st qz15 ?_
  show OGo p.tables e below _ (T14.setTop (mkF m 18 #[.val (.ref a1), .val (.ref a2), .val (.int (1 : Int32))] [(.long (w 1)), (.int (1 : Int32)), (.ref b1)]))
  refine OGo.st (fun _ k_ => XS.aloadN X14.here hx rfl (hb hby own_d_prog_22_method_8_code_18) rfl rfl k_) ?_
  show OGo p.tables e below _ (T14.setTop (mkF m 19 #[.val (.ref a1), .val (.ref a2), .val (.int (1 : Int32))] [(.ref a2), (.long (w 1)), (.int (1 : Int32)), (.ref b1)]))
  obtain ⟨T16, X16, ez16, st16⟩ := getF X14 hx hZ hown (host := "") (Or.inl (hw _ (List.mem_of_getElem? (i := 10) rfl))) Via.refl ez14 F_9 (g := (mkF m 19 #[.val (.ref a1), .val (.ref a2), .val (.int (1 : Int32))] [(.ref a2), (.long (w 1)), (.int (1 : Int32)), (.ref b1)])) rfl rfl (hb hby own_d_prog_22_method_8_code_19)
  refine OGo.st st16 ?_
  show OGo p.tables e below _ (T16.setTop (mkF m 22 #[.val (.ref a1), .val (.ref a2), .val (.int (1 : Int32))] [(.ref b2), (.long (w 1)), (.int (1 : Int32)), (.ref b1)]))
  refine OGo.st (fun _ k_ => XS.iloadN X16.here hx rfl (hb hby own_d_prog_22_method_8_code_22) rfl k_) ?_
  show OGo p.tables e below _ (T16.setTop (mkF m 23 #[.val (.ref a1), .val (.ref a2), .val (.int (1 : Int32))] [(.int (1 : Int32)), (.ref b2), (.long (w 1)), (.int (1 : Int32)), (.ref b1)]))
  have qz17 := own_ldJ X16 hx hZ ez16 Af_10 (j := (1 : Int32)) (v := (w2 1)) (by decide) rfl (g := (mkF m 23 #[.val (.ref a1), .val (.ref a2), .val (.int (1 : Int32))] [(.int (1 : Int32)), (.ref b2), (.long (w 1)), (.int (1 : Int32)), (.ref b1)])) rfl rfl (hb hby own_d_prog_22_method_8_code_23)
  refine OGo.st qz17 ?_
  show OGo p.tables e below _ (T16.setTop (mkF m 24 #[.val (.ref a1), .val (.ref a2), .val (.int (1 : Int32))] [(.long (w2 1)), (.long (w 1)), (.int (1 : Int32)), (.ref b1)]))
  refine OGo.st (fun _ k_ => XS.lor X16.here hx rfl (hb hby own_d_prog_22_method_8_code_24) rfl k_) ?_
  show OGo p.tables e below _ (T16.setTop (mkF m 25 #[.val (.ref a1), .val (.ref a2), .val (.int (1 : Int32))] [(.long ((w 1) ||| (w2 1))), (.int (1 : Int32)), (.ref b1)]))
  obtain ⟨T18, hz18, X18, ez18, W18, V18, st18⟩ := own_stJ X16 hx hZ ez16 V7 (j := (1 : Int32)) (by decide)  (g := (mkF m 25 #[.val (.ref a1), .val (.ref a2), .val (.int (1 : Int32))] [(.long ((w 1) ||| (w2 1))), (.int (1 : Int32)), (.ref b1)])) rfl rfl (hb hby own_d_prog_22_method_8_code_25)
  have F_19 := F_8.other W18 (Or.inl ne_a1_b1)
  have F_20 := F_9.other W18 (Or.inl ne_a2_b1)
  have Af_21 := Af_10.other W18 ne_b2_b1
  have N18 := Fr.snoc X18 N7 g_b1
  have K_22 : Keep h0 hz18 [b1] := K_11.wr W18 (Or.inl (List.mem_of_getElem? (i := 0) rfl))
  refine OGo.st st18 ?_
  show OGo p.tables e below _ (T18.setTop (mkF m 26 #[.val (.ref a1), .val (.ref a2), .val (.int (1 : Int32))] []))
  refine OGo.st (fun _ k_ => XS.iinc X18.here hx rfl (hb hby own_d_prog_22_method_8_code_26) rfl (l' := #[.val (.ref a1), .val (.ref a2), .val (.int (2 : Int32))]) rfl k_) ?_
  show OGo p.tables e below _ (T18.setTop (mkF m 29 #[.val (.ref a1), .val (.ref a2), .val (.int (2 : Int32))] []))
  refine OGo.st (fun _ k_ => XS.goto X18.here hx rfl (pc0 := 29) (pc' := 2) rfl (hb hby own_d_prog_22_method_8_code_29) (by decide) (by decide) k_) ?_
  show OGo p.tables e below _ (T18.setTop (mkF m 2 #[.val (.ref a1), .val (.ref a2), .val (.int (2 : Int32))] []))
  refine OGo.st (fun _ k_ => XS.iloadN X18.here hx rfl (hb hby own_d_prog_22_method_8_code_2) rfl k_) ?_
  show OGo p.tables e below _ (T18.setTop (mkF m 3 #[.val (.ref a1), .val (.ref a2), .val (.int (2 : Int32))] [(.int (2 : Int32))]))
  refine OGo.st (fun _ k_ => XS.aloadN X18.here hx rfl (hb hby own_d_prog_22_method_8_code_3) rfl rfl k_) ?_
  show OGo p.tables e below _ (T18.setTop (mkF m 4 #[.val (.ref a1), .val (.ref a2), .val (.int (2 : Int32))] [(.ref a1), (.int (2 : Int32))]))
  obtain ⟨T23, X23, ez23, st23⟩ := getF X18 hx hZ hown (host := "") (Or.inl (hw _ (List.mem_of_getElem? (i := 10) rfl))) Via.refl ez18 F_19 (g := (mkF m 4 #[.val (.ref a1), .val (.ref a2), .val (.int (2 : Int32))] [(.ref a1), (.int (2 : Int32))])) rfl rfl (hb hby own_d_prog_22_method_8_code_4)
  refine OGo.st st23 ?_
  show OGo p.tables e below _ (T23.setTop (mkF m 7 #[.val (.ref a1), .val (.ref a2), .val (.int (2 : Int32))] [(.ref b1), (.int (2 : Int32))]))
  have qz24 := own_alen X23 hx hZ ez23 V18 (g := (mkF m 7 #[.val (.ref a1), .val (.ref a2), .val (.int (2 : Int32))] [(.ref b1), (.int (2 : Int32))])) rfl rfl (hb hby own_d_prog_22_method_8_code_7)
  refine OGo.st qz24 ?_
  show OGo p.tables e below _ (T23.setTop (mkF m 8 #[.val (.ref a1), .val (.ref a2), .val (.int (2 : Int32))] [(.int (4 : Int32)), (.int (2 : Int32))]))
  refine OGo.st (fun _ k_ => XS.icmpNo X23.here hx rfl (hb hby own_d_prog_22_method_8_code_8) rfl (XT.ii_ge_f (by decide)) k_) ?_
  show OGo p.tables e below _ (T23.setTop (mkF m 11 #[.val (.ref a1), .val (.ref a2), .val (.int (2 : Int32))] []))
  refine OGo.st (fun _ k_ => XS.aloadN X23.here hx rfl (hb hby own_d_prog_22_method_8_code_11) rfl rfl k_) ?_
  show OGo p.tables e below _ (T23.setTop (mkF m 12 #[.val (.ref a1), .val (.ref a2), .val (.int (2 : Int32))] [(.ref a1)]))
  obtain ⟨T25, X25, ez25, st25⟩ := getF X23 hx hZ hown (host := "") (Or.inl (hw _ (List.mem_of_getElem? (i := 10) rfl))) Via.refl ez23 F_19 (g := (mkF m 12 #[.val (.ref a1), .val (.ref a2), .val (.int (2 : Int32))] [(.ref a1)])) rfl rfl (hb hby own_d_prog_22_method_8_code_12)
  refine OGo.st st25 ?_
  show OGo p.tables e below _ (T25.setTop (mkF m 15 #[.val (.ref a1), .val (.ref a2), .val (.int (2 : Int32))] [(.ref b1)]))
  refine OGo.st (fun _ k_ => XS.iloadN X25.here hx rfl (hb hby own_d_prog_22_method_8_code_15) rfl k_) ?_
  show OGo p.tables e below _ (T25.setTop (mkF m 16 #[.val (.ref a1), .val (.ref a2), .val (.int (2 : Int32))] [(.int (2 : Int32)), (.ref b1)]))
  refine OGo.st (fun _ k_ => XT.dup2 X25.here hx rfl (hb hby own_d_prog_22_method_8_code_16) rfl rfl rfl k_) ?_
  show OGo p.tables e below _ (T25.setTop (mkF m 17 #[.val (.ref a1), .val (.ref a2), .val (.int (2 : Int32))] [(.int (2 : Int32)), (.ref b1), (.int (2 : Int32)), (.ref b1)]))
  have qz26 := own_ldJ X25 hx hZ ez25 V18 (j := (2 : Int32)) (v := (w 2)) (by decide) rfl (g := (mkF m 17 #[.val (.ref a1), .val (.ref a2), .val (.int (2 : Int32))] [(.int (2 : Int32)), (.ref b1), (.int (2 : Int32)), (.ref b1)])) rfl rfl (hb hby own_d_prog_22_method_8_code_17)
  refine OGo.st qz26 ?_
  show OGo p.tables e below _ (T25.setTop (mkF m 18 #[.val (.ref a1), .val (.ref a2), .val (.int (2 : Int32))] [(.long (w 2)), (.int (2 : Int32)), (.ref b1)]))
  refine OGo.st (fun _ k_ => XS.aloadN X25.here hx rfl (hb hby own_d_prog_22_method_8_code_18) rfl rfl k_) ?_
  show OGo p.tables e below _ (T25.setTop (mkF m 19 #[.val (.ref a1), .val (.ref a2), .val (.int (2 : Int32))] [(.ref a2), (.long (w 2)), (.int (2 : Int32)), (.ref b1)]))
  obtain ⟨T27, X27, ez27, st27⟩ := getF X25 hx hZ hown (host := "") (Or.inl (hw _ (List.mem_of_getElem? (i := 10) rfl))) Via.refl ez25 F_20 (g := (mkF m 19 #[.val (.ref a1), .val (.ref a2), .val (.int (2 : Int32))] [(.ref a2), (.long (w 2)), (.int (2 : Int32)), (.ref b1)])) rfl rfl (hb hby own_d_prog_22_method_8_code_19)
  refine OGo.st st27 ?_
  show OGo p.tables e below _ (T27.setTop (mkF m 22 #[.val (.ref a1), .val (.ref a2), .val (.int (2 : Int32))] [(.ref b2), (.long (w 2)), (.int (2 : Int32)), (.ref b1)]))
  refine OGo.st (fun _ k_ => XS.iloadN X27.here hx rfl (hb hby own_d_prog_22_method_8_code_22) rfl k_) ?_
  show OGo p.tables e below _ (T27.setTop (mkF m 23 #[.val (.ref a1), .val (.ref a2), .val (.int (2 : Int32))] [(.int (2 : Int32)), (.ref b2), (.long (w 2)), (.int (2 : Int32)), (.ref b1)]))
  have qz28 := own_ldJ X27 hx hZ ez27 Af_21 (j := (2 : Int32)) (v := (w2 2)) (by decide) rfl (g := (mkF m 23 #[.val (.ref a1), .val (.ref a2), .val (.int (2 : Int32))] [(.int (2 : Int32)), (.ref b2), (.long (w 2)), (.int (2 : Int32)), (.ref b1)])) rfl rfl (hb hby own_d_prog_22_method_8_code_23)
  refine OGo.st qz28 ?_
  show OGo p.tables e below _ (T27.setTop (mkF m 24 #[.val (.ref a1), .val (.ref a2), .val (.int (2 : Int32))] [(.long (w2 2)), (.long (w 2)), (.int (2 : Int32)), (.ref b1)]))
  refine OGo.st (fun _ k_ => XS.lor X27.here hx rfl (hb hby own_d_prog_22_method_8_code_24) rfl k_) ?_
  show OGo p.tables e below _ (T27.setTop (mkF m 25 #[.val (.ref a1), .val (.ref a2), .val (.int (2 : Int32))] [(.long ((w 2) ||| (w2 2))), (.int (2 : Int32)), (.ref b1)]))
  obtain ⟨T29, hz29, X29, ez29, W29, V29, st29⟩ := own_stJ X27 hx hZ ez27 V18 (j := (2 : Int32)) (by decide)  (g := (mkF m 25 #[.val (.ref a1), .val (.ref a2), .val (.int (2 : Int32))] [(.long ((w 2) ||| (w2 2))), (.int (2 : Int32)), (.ref b1)])) rfl rfl (hb hby own_d_prog_22_method_8_code_25)
  have F_30 := F_19.other W29 (Or.inl ne_a1_b1)
  have F_31 := F_20.other W29 (Or.inl ne_a2_b1)
  have Af_32 := Af_21.other W29 ne_b2_b1
  have N29 := Fr.snoc X29 N18 g_b1
  have K_33 : Keep h0 hz29 [b1] := K_22.wr W29 (Or.inl (List.mem_of_getElem? (i := 0) rfl))
  refine OGo.st st29 ?_
  show OGo p.tables e below _ (T29.setTop (mkF m 26 #[.val (.ref a1), .val (.ref a2), .val (.int (2 : Int32))] []))
  refine OGo.st (fun _ k_ => XS.iinc X29.here hx rfl (hb hby own_d_prog_22_method_8_code_26) rfl (l' := #[.val (.ref a1), .val (.ref a2), .val (.int (3 : Int32))]) rfl k_) ?_
  show OGo p.tables e below _ (T29.setTop (mkF m 29 #[.val (.ref a1), .val (.ref a2), .val (.int (3 : Int32))] []))
  refine OGo.st (fun _ k_ => XS.goto X29.here hx rfl (pc0 := 29) (pc' := 2) rfl (hb hby own_d_prog_22_method_8_code_29) (by decide) (by decide) k_) ?_
  show OGo p.tables e below _ (T29.setTop (mkF m 2 #[.val (.ref a1), .val (.ref a2), .val (.int (3 : Int32))] []))
  refine OGo.st (fun _ k_ => XS.iloadN X29.here hx rfl (hb hby own_d_prog_22_method_8_code_2) rfl k_) ?_
  show OGo p.tables e below _ (T29.setTop (mkF m 3 #[.val (.ref a1), .val (.ref a2), .val (.int (3 : Int32))] [(.int (3 : Int32))]))
  refine OGo.st (fun _ k_ => XS.aloadN X29.here hx rfl (hb hby own_d_prog_22_method_8_code_3) rfl rfl k_) ?_
  show OGo p.tables e below _ (T29.setTop (mkF m 4 #[.val (.ref a1), .val (.ref a2), .val (.int (3 : Int32))] [(.ref a1), (.int (3 : Int32))]))
  obtain ⟨T34, X34, ez34, st34⟩ := getF X29 hx hZ hown (host := "") (Or.inl (hw _ (List.mem_of_getElem? (i := 10) rfl))) Via.refl ez29 F_30 (g := (mkF m 4 #[.val (.ref a1), .val (.ref a2), .val (.int (3 : Int32))] [(.ref a1), (.int (3 : Int32))])) rfl rfl (hb hby own_d_prog_22_method_8_code_4)
  refine OGo.st st34 ?_
  show OGo p.tables e below _ (T34.setTop (mkF m 7 #[.val (.ref a1), .val (.ref a2), .val (.int (3 : Int32))] [(.ref b1), (.int (3 : Int32))]))
  have qz35 := own_alen X34 hx hZ ez34 V29 (g := (mkF m 7 #[.val (.ref a1), .val (.ref a2), .val (.int (3 : Int32))] [(.ref b1), (.int (3 : Int32))])) rfl rfl (hb hby own_d_prog_22_method_8_code_7)
  refine OGo.st qz35 ?_
  show OGo p.tables e below _ (T34.setTop (mkF m 8 #[.val (.ref a1), .val (.ref a2), .val (.int (3 : Int32))] [(.int (4 : Int32)), (.int (3 : Int32))]))
  refine OGo.st (fun _ k_ => XS.icmpNo X34.here hx rfl (hb hby own_d_prog_22_method_8_code_8) rfl (XT.ii_ge_f (by decide)) k_) ?_
  show OGo p.tables e below _ (T34.setTop (mkF m 11 #[.val (.ref a1), .val (.ref a2), .val (.int (3 : Int32))] []))
  refine OGo.st (fun _ k_ => XS.aloadN X34.here hx rfl (hb hby own_d_prog_22_method_8_code_11) rfl rfl k_) ?_
  show OGo p.tables e below _ (T34.setTop (mkF m 12 #[.val (.ref a1), .val (.ref a2), .val (.int (3 : Int32))] [(.ref a1)]))
  obtain ⟨T36, X36, ez36, st36⟩ := getF X34 hx hZ hown (host := "") (Or.inl (hw _ (List.mem_of_getElem? (i := 10) rfl))) Via.refl ez34 F_30 (g := (mkF m 12 #[.val (.ref a1), .val (.ref a2), .val (.int (3 : Int32))] [(.ref a1)])) rfl rfl (hb hby own_d_prog_22_method_8_code_12)
  refine OGo.st st36 ?_
  show OGo p.tables e below _ (T36.setTop (mkF m 15 #[.val (.ref a1), .val (.ref a2), .val (.int (3 : Int32))] [(.ref b1)]))
  refine OGo.st (fun _ k_ => XS.iloadN X36.here hx rfl (hb hby own_d_prog_22_method_8_code_15) rfl k_) ?_
  show OGo p.tables e below _ (T36.setTop (mkF m 16 #[.val (.ref a1), .val (.ref a2), .val (.int (3 : Int32))] [(.int (3 : Int32)), (.ref b1)]))
  refine OGo.st (fun _ k_ => XT.dup2 X36.here hx rfl (hb hby own_d_prog_22_method_8_code_16) rfl rfl rfl k_) ?_
  show OGo p.tables e below _ (T36.setTop (mkF m 17 #[.val (.ref a1), .val (.ref a2), .val (.int (3 : Int32))] [(.int (3 : Int32)), (.ref b1), (.int (3 : Int32)), (.ref b1)]))
  have qz37 := own_ldJ X36 hx hZ ez36 V29 (j := (3 : Int32)) (v := (w 3)) (by decide) rfl (g := (mkF m 17 #[.val (.ref a1), .val (.ref a2), .val (.int (3 : Int32))] [(.int (3 : Int32)), (.ref b1), (.int (3 : Int32)), (.ref b1)])) rfl rfl (hb hby own_d_prog_22_method_8_code_17)
  refine OGo.st qz37 ?_
  show OGo p.tables e below _ (T36.setTop (mkF m 18 #[.val (.ref a1), .val (.ref a2), .val (.int (3 : Int32))] [(.long (w 3)), (.int (3 : Int32)), (.ref b1)]))
  refine OGo.st (fun _ k_ => XS.aloadN X36.here hx rfl (hb hby own_d_prog_22_method_8_code_18) rfl rfl k_) ?_
  show OGo p.tables e below _ (T36.setTop (mkF m 19 #[.val (.ref a1), .val (.ref a2), .val (.int (3 : Int32))] [(.ref a2), (.long (w 3)), (.int (3 : Int32)), (.ref b1)]))
  obtain ⟨T38, X38, ez38, st38⟩ := getF X36 hx hZ hown (host := "") (Or.inl (hw _ (List.mem_of_getElem? (i := 10) rfl))) Via.refl ez36 F_31 (g := (mkF m 19 #[.val (.ref a1), .val (.ref a2), .val (.int (3 : Int32))] [(.ref a2), (.long (w 3)), (.int (3 : Int32)), (.ref b1)])) rfl rfl (hb hby own_d_prog_22_method_8_code_19)
  refine OGo.st st38 ?_
  show OGo p.tables e below _ (T38.setTop (mkF m 22 #[.val (.ref a1), .val (.ref a2), .val (.int (3 : Int32))] [(.ref b2), (.long (w 3)), (.int (3 : Int32)), (.ref b1)]))
  refine OGo.st (fun _ k_ => XS.iloadN X38.here hx rfl (hb hby own_d_prog_22_method_8_code_22) rfl k_) ?_
  show OGo p.tables e below _ (T38.setTop (mkF m 23 #[.val (.ref a1), .val (.ref a2), .val (.int (3 : Int32))] [(.int (3 : Int32)), (.ref b2), (.long (w 3)), (.int (3 : Int32)), (.ref b1)]))
  have qz39 := own_ldJ X38 hx hZ ez38 Af_32 (j := (3 : Int32)) (v := (w2 3)) (by decide) rfl (g := (mkF m 23 #[.val (.ref a1), .val (.ref a2), .val (.int (3 : Int32))] [(.int (3 : Int32)), (.ref b2), (.long (w 3)), (.int (3 : Int32)), (.ref b1)])) rfl rfl (hb hby own_d_prog_22_method_8_code_23)
  refine OGo.st qz39 ?_
  show OGo p.tables e below _ (T38.setTop (mkF m 24 #[.val (.ref a1), .val (.ref a2), .val (.int (3 : Int32))] [(.long (w2 3)), (.long (w 3)), (.int (3 : Int32)), (.ref b1)]))
  refine OGo.st (fun _ k_ => XS.lor X38.here hx rfl (hb hby own_d_prog_22_method_8_code_24) rfl k_) ?_
  show OGo p.tables e below _ (T38.setTop (mkF m 25 #[.val (.ref a1), .val (.ref a2), .val (.int (3 : Int32))] [(.long ((w 3) ||| (w2 3))), (.int (3 : Int32)), (.ref b1)]))
  obtain ⟨T40, hz40, X40, ez40, W40, V40, st40⟩ := own_stJ X38 hx hZ ez38 V29 (j := (3 : Int32)) (by decide)  (g := (mkF m 25 #[.val (.ref a1), .val (.ref a2), .val (.int (3 : Int32))] [(.long ((w 3) ||| (w2 3))), (.int (3 : Int32)), (.ref b1)])) rfl rfl (hb hby own_d_prog_22_method_8_code_25)
  have F_41 := F_30.other W40 (Or.inl ne_a1_b1)
  have F_42 := F_31.other W40 (Or.inl ne_a2_b1)
  have Af_43 := Af_32.other W40 ne_b2_b1
  have N40 := Fr.snoc X40 N29 g_b1
  have K_44 : Keep h0 hz40 [b1] := K_33.wr W40 (Or.inl (List.mem_of_getElem? (i := 0) rfl))
  refine OGo.st st40 ?_
  show OGo p.tables e below _ (T40.setTop (mkF m 26 #[.val (.ref a1), .val (.ref a2), .val (.int (3 : Int32))] []))
  refine OGo.st (fun _ k_ => XS.iinc X40.here hx rfl (hb hby own_d_prog_22_method_8_code_26) rfl (l' := #[.val (.ref a1), .val (.ref a2), .val (.int (4 : Int32))]) rfl k_) ?_
  show OGo p.tables e below _ (T40.setTop (mkF m 29 #[.val (.ref a1), .val (.ref a2), .val (.int (4 : Int32))] []))
  refine OGo.st (fun _ k_ => XS.goto X40.here hx rfl (pc0 := 29) (pc' := 2) rfl (hb hby own_d_prog_22_method_8_code_29) (by decide) (by decide) k_) ?_
  show OGo p.tables e below _ (T40.setTop (mkF m 2 #[.val (.ref a1), .val (.ref a2), .val (.int (4 : Int32))] []))
  refine OGo.st (fun _ k_ => XS.iloadN X40.here hx rfl (hb hby own_d_prog_22_method_8_code_2) rfl k_) ?_
  show OGo p.tables e below _ (T40.setTop (mkF m 3 #[.val (.ref a1), .val (.ref a2), .val (.int (4 : Int32))] [(.int (4 : Int32))]))
  refine OGo.st (fun _ k_ => XS.aloadN X40.here hx rfl (hb hby own_d_prog_22_method_8_code_3) rfl rfl k_) ?_
  show OGo p.tables e below _ (T40.setTop (mkF m 4 #[.val (.ref a1), .val (.ref a2), .val (.int (4 : Int32))] [(.ref a1), (.int (4 : Int32))]))
  obtain ⟨T45, X45, ez45, st45⟩ := getF X40 hx hZ hown (host := "") (Or.inl (hw _ (List.mem_of_getElem? (i := 10) rfl))) Via.refl ez40 F_41 (g := (mkF m 4 #[.val (.ref a1), .val (.ref a2), .val (.int (4 : Int32))] [(.ref a1), (.int (4 : Int32))])) rfl rfl (hb hby own_d_prog_22_method_8_code_4)
  refine OGo.st st45 ?_
  show OGo p.tables e below _ (T45.setTop (mkF m 7 #[.val (.ref a1), .val (.ref a2), .val (.int (4 : Int32))] [(.ref b1), (.int (4 : Int32))]))
  have qz46 := own_alen X45 hx hZ ez45 V40 (g := (mkF m 7 #[.val (.ref a1), .val (.ref a2), .val (.int (4 : Int32))] [(.ref b1), (.int (4 : Int32))])) rfl rfl (hb hby own_d_prog_22_method_8_code_7)
  refine OGo.st qz46 ?_
  show OGo p.tables e below _ (T45.setTop (mkF m 8 #[.val (.ref a1), .val (.ref a2), .val (.int (4 : Int32))] [(.int (4 : Int32)), (.int (4 : Int32))]))
  refine OGo.st (fun _ k_ => XS.icmpYes X45.here hx rfl (pc0 := 8) (pc' := 32) rfl (hb hby own_d_prog_22_method_8_code_8) rfl (XT.ii_ge_t (by decide)) (by decide) (by decide) k_) ?_
  have Af_47 : Arf Z hz40 b1 k1 .long 4 (own_L (fun i => w i ||| w2 i)) := V40.congr (fun i hi => match i, hi with | 0, _ => rfl | 1, _ => rfl | 2, _ => rfl | 3, _ => rfl | (n_ + 4), q_ => absurd q_ (by show ¬ n_ + 4 < 4; omega))
  show OGo p.tables e below _ (T45.setTop (mkF m 32 #[.val (.ref a1), .val (.ref a2), .val (.int (4 : Int32))] []))
  refine OGo.fin X45 (v := none) (fun _ => rfl) hlk (fun fs hr => X45.returnOut hx Bd.returns (hb hby own_d_prog_22_method_8_code_32) hr) ?_ (by decide) (by decide)
  show own_Q_rm5 Z a1 a2 b1 k1 w b2 k2 w2 h0 n0 _ T45.heap _
  rw [ez45]
  exact ⟨rfl, N40, K_44, Af_47⟩
theorem own_d_prog_22_method_11_code_0 : decode prog_22_method_11_code 0 = .ok (.aload_n 0, 1) := by decide +kernel
theorem own_d_prog_22_method_11_code_1 : decode prog_22_method_11_code 1 = .ok (.getfield 7, 3) := by decide +kernel
theorem own_d_prog_22_method_11_code_4 : decode prog_22_method_11_code 4 = .ok (.iconst 0, 1) := by decide +kernel
theorem own_d_prog_22_method_11_code_5 : decode prog_22_method_11_code 5 = .ok (.aload_n 1, 1) := by decide +kernel
theorem own_d_prog_22_method_11_code_6 : decode prog_22_method_11_code 6 = .ok (.iload_n 2, 1) := by decide +kernel
theorem own_d_prog_22_method_11_code_7 : decode prog_22_method_11_code 7 = .ok (.aload_n 0, 1) := by decide +kernel
theorem own_d_prog_22_method_11_code_8 : decode prog_22_method_11_code 8 = .ok (.getfield 7, 3) := by decide +kernel
theorem own_d_prog_22_method_11_code_11 : decode prog_22_method_11_code 11 = .ok (.arraylength, 1) := by decide +kernel
theorem own_d_prog_22_method_11_code_12 : decode prog_22_method_11_code 12 = .ok (.invokestatic 64, 3) := by decide +kernel
theorem own_d_prog_22_method_11_code_15 : decode prog_22_method_11_code 15 = .ok (.return_, 1) := by decide +kernel
theorem own_ef_rm6 (m : MethodId) (x0 : Addr) (x1 : Addr) (x2 : Int32) : entryFrame m #[(.ref x0), (.ref x1), (.int x2)] 3 = mkF m 0 #[.val (.ref x0), .val (.ref x1), .val (.int x2)] [] := by first | (simp [entryFrame, mkF, argsToLocals, Value.category]; done) | rfl
def own_Q_rm6 (Z : State) (a1 : Addr) (c1 : Addr) (p3 : Int32) (b1 : Addr) (k1 : ClassId) (w : Nat → Int64) (k2 : ClassId) (f : Nat → Value) (h0 : Heap) (n0 : Nat) (v : Option Value) (h : Heap) (L : List Loc) : Prop := v = none ∧ Fr n0 L ∧ Keep h0 h [c1] ∧ Arf Z h c1 k2 .long 8 (own_cp w p3 f)
set_option maxRecDepth 65536 in
set_option maxHeartbeats 40000000 in
theorem rm6 (l : Launch) (Z : State) (a0 : Array Value) (hw : ∀ d ∈ tables_1, d.before a0 Z = true) (ws : List Jvm.Cond) (a1 : Addr) (c1 : Addr) (p3 : Int32) (b1 : Addr) (k1 : ClassId) (w : Nat → Int64) (k2 : ClassId) (f : Nat → Value) (h0 : Heap) (n0 : Nat) (Z0 : n0 ≤ h0.size) (F_words_a1 : Fld Z h0 a1 "com/example/locator/locator/ByteSet" "words" "[J" (.ref b1)) (A_b1 : Arf Z h0 b1 k1 .long 4 (own_L w)) (A_c1 : Arf Z h0 c1 k2 .long 8 f) (g_c1 : n0 ≤ c1) (ne_a1_c1 : a1 ≠ c1) (ne_b1_c1 : b1 ≠ c1) (hp : ¬ p3 < 0 ∧ p3.toNatClampNeg + 4 ≤ 8) :
    OMet l Z (⟨"com/example/locator/locator/ByteSet", "copyTo", "([JI)V"⟩ : MethodName) prog_22_method_11_code 3 none ws ({ frames := 1, cells := 0, slots := 0, locals := 18 } : Room) #[(.ref a1), (.ref c1), (.int p3)] h0 (own_Q_rm6 Z a1 c1 p3 b1 k1 w k2 f h0 n0) := by
  refine MetFree.of_bodySF (plainFor_of_name own_pn0) hisR ?_
  intro p e s m args below meth c s₁ Bd hml0 hP hK
  obtain ⟨rfl, hZ, hh⟩ := hP
  have hx := Bd.exec
  have hby := Bd.bytes
  have hml : c.maxLocals = 3 := hml0
  have hown : s.vm.findClass "com/example/locator/locator/ByteSet" = some m.cls := findClass_of_methodNamed Bd.named
  have hnm := (name_of_methodNamed Bd.named Bd.method).1
  have hlk : meth.locks = false := Bd.notSynchronized
  have X0 : Stand p l e ({ frames := 1, cells := 0, slots := 0, locals := 18 } : Room) s m #[(.ref a1), (.ref c1), (.int p3)] below meth c s₁ [] 0 0 := Stand.of_body Bd
  have e0 : s₁.heap = h0 := by rw [← hh, Bd.state]; rfl
  have N0 := Fr.nil n0
  refine OGo.enter (P := OPost s (own_Q_rm6 Z a1 c1 p3 b1 k1 w k2 f h0 n0) 0 0) (own_ef_rm6 m a1 c1 p3) ?_
  show OGo p.tables e below _ (s₁.setTop (mkF m 0 #[.val (.ref a1), .val (.ref c1), .val (.int p3)] []))
  refine OGo.st (fun _ k_ => XS.aloadN X0.here hx rfl (hb hby own_d_prog_22_method_11_code_0) rfl rfl k_) ?_
  show OGo p.tables e below _ (s₁.setTop (mkF m 1 #[.val (.ref a1), .val (.ref c1), .val (.int p3)] [(.ref a1)]))
  obtain ⟨T1, X1, ez1, st1⟩ := getF X0 hx hZ hown (host := "") (Or.inl (hw _ (List.mem_of_getElem? (i := 10) rfl))) Via.refl e0 F_words_a1 (g := (mkF m 1 #[.val (.ref a1), .val (.ref c1), .val (.int p3)] [(.ref a1)])) rfl rfl (hb hby own_d_prog_22_method_11_code_1)
  refine OGo.st st1 ?_
  show OGo p.tables e below _ (T1.setTop (mkF m 4 #[.val (.ref a1), .val (.ref c1), .val (.int p3)] [(.ref b1)]))
  refine OGo.st (fun _ k_ => XS.iconst X1.here hx rfl (hb hby own_d_prog_22_method_11_code_4) k_) ?_
  show OGo p.tables e below _ (T1.setTop (mkF m 5 #[.val (.ref a1), .val (.ref c1), .val (.int p3)] [(.int (0 : Int32)), (.ref b1)]))
  refine OGo.st (fun _ k_ => XS.aloadN X1.here hx rfl (hb hby own_d_prog_22_method_11_code_5) rfl rfl k_) ?_
  show OGo p.tables e below _ (T1.setTop (mkF m 6 #[.val (.ref a1), .val (.ref c1), .val (.int p3)] [(.ref c1), (.int (0 : Int32)), (.ref b1)]))
  refine OGo.st (fun _ k_ => XS.iloadN X1.here hx rfl (hb hby own_d_prog_22_method_11_code_6) rfl k_) ?_
  show OGo p.tables e below _ (T1.setTop (mkF m 7 #[.val (.ref a1), .val (.ref c1), .val (.int p3)] [(.int p3), (.ref c1), (.int (0 : Int32)), (.ref b1)]))
  refine OGo.st (fun _ k_ => XS.aloadN X1.here hx rfl (hb hby own_d_prog_22_method_11_code_7) rfl rfl k_) ?_
  show OGo p.tables e below _ (T1.setTop (mkF m 8 #[.val (.ref a1), .val (.ref c1), .val (.int p3)] [(.ref a1), (.int p3), (.ref c1), (.int (0 : Int32)), (.ref b1)]))
  obtain ⟨T2, X2, ez2, st2⟩ := getF X1 hx hZ hown (host := "") (Or.inl (hw _ (List.mem_of_getElem? (i := 10) rfl))) Via.refl ez1 F_words_a1 (g := (mkF m 8 #[.val (.ref a1), .val (.ref c1), .val (.int p3)] [(.ref a1), (.int p3), (.ref c1), (.int (0 : Int32)), (.ref b1)])) rfl rfl (hb hby own_d_prog_22_method_11_code_8)
  refine OGo.st st2 ?_
  show OGo p.tables e below _ (T2.setTop (mkF m 11 #[.val (.ref a1), .val (.ref c1), .val (.int p3)] [(.ref b1), (.int p3), (.ref c1), (.int (0 : Int32)), (.ref b1)]))
  have qz3 := own_alen X2 hx hZ ez2 A_b1 (g := (mkF m 11 #[.val (.ref a1), .val (.ref c1), .val (.int p3)] [(.ref b1), (.int p3), (.ref c1), (.int (0 : Int32)), (.ref b1)])) rfl rfl (hb hby own_d_prog_22_method_11_code_11)
  refine OGo.st qz3 ?_
  show OGo p.tables e below _ (T2.setTop (mkF m 12 #[.val (.ref a1), .val (.ref c1), .val (.int p3)] [(.int (4 : Int32)), (.int p3), (.ref c1), (.int (0 : Int32)), (.ref b1)]))
  obtain ⟨T4, hz4, L4, X4, ez4, N4, Kq4, V4, st4⟩ := own_copy X2 hx hZ hown (hw _ (List.mem_of_getElem? (i := 33) rfl)) (hw _ (List.mem_of_getElem? (i := 36) rfl)) (hw _ (List.mem_of_getElem? (i := 34) rfl)) (hw _ (List.mem_of_getElem? (i := 35) rfl)) ez2 A_b1 A_c1 rfl (sp := (0 : Int32)) (dp := p3) (nn := (4 : Int32)) (by decide) hp.1 (by decide) (by decide) hp.2 N0 g_c1 (g := (mkF m 12 #[.val (.ref a1), .val (.ref c1), .val (.int p3)] [(.int (4 : Int32)), (.int p3), (.ref c1), (.int (0 : Int32)), (.ref b1)])) rfl (by rw [hml]; rfl) rfl (hb hby own_d_prog_22_method_11_code_12) (by decide) (W := 0) (by show 2 * 0 + _ ≤ _; exact Nat.le_of_eq rfl) (by decide)
  have F_5 := F_words_a1.keep Kq4 (ninS ne_a1_c1 nin0)
  have Af_6 := A_b1.keep Kq4 (ninS ne_b1_c1 nin0)
  have K_7 : Keep h0 hz4 [c1] := (Keep.refl h0 [c1]).trans Kq4 (allS (Or.inl (List.mem_of_getElem? (i := 0) rfl)) all0)
  refine OGo.st st4 ?_
  show OGo p.tables e below _ (T4.setTop (mkF m 15 #[.val (.ref a1), .val (.ref c1), .val (.int p3)] []))
  refine OGo.fin X4 (v := none) (fun _ => rfl) hlk (fun fs hr => X4.returnOut hx Bd.returns (hb hby own_d_prog_22_method_11_code_15) hr) ?_ (by decide) (by decide)
  show own_Q_rm6 Z a1 c1 p3 b1 k1 w k2 f h0 n0 _ T4.heap _
  rw [ez4]
  exact ⟨rfl, N4, K_7, V4⟩
theorem own_pd0 : parseMethodDescriptor "()V" = some ⟨[], none⟩ := by decide +kernel
theorem own_pd1 : parseMethodDescriptor "(I)V" = some ⟨[.int], none⟩ := by decide +kernel
theorem own_pd2 : parseMethodDescriptor "([JI)V" = some ⟨[(.array .long), .int], none⟩ := by decide +kernel
theorem own_pd3 : parseMethodDescriptor "(Lcom/example/locator/locator/ByteSet;)V" = some ⟨[(.object "com/example/locator/locator/ByteSet")], none⟩ := by decide +kernel
theorem own_pn1 : plainName "com/example/locator/locator/ByteSetAddAllPinLaw" = true := by first | (simp [plainName, overriddenIn]; done) | decide +kernel
theorem own_ef_rm0 (m : MethodId) (x0 : Int32) (x1 : Int32) (x2 : Int32) (x3 : Int32) (x4 : Int32) (x5 : Int32) : entryFrame m #[(.int x0), (.int x1), (.int x2), (.int x3), (.int x4), (.int x5)] maxLocals = mkF m 0 #[.val (.int x0), .val (.int x1), .val (.int x2), .val (.int x3), .val (.int x4), .val (.int x5), .unset, .unset, .unset, .unset, .unset, .unset, .unset, .unset, .unset, .unset, .unset, .unset, .unset, .unset, .unset, .unset] [] := by first | (simp [entryFrame, mkF, argsToLocals, Value.category, maxLocals]; done) | rfl
def own_Q_rm0 (Z : State) (p1 : Int32) (p2 : Int32) (p3 : Int32) (p4 : Int32) (p5 : Int32) (p6 : Int32) (h0 : Heap) (n0 : Nat) (v : Option Value) (h : Heap) (L : List Loc) : Prop := v = some (.int 1) ∧ Fr n0 L
set_option maxRecDepth 65536 in
set_option maxHeartbeats 40000000 in
theorem rm0 (l : Launch) (Z : State) (a0 : Array Value) (hw : ∀ d ∈ tables_1, d.before a0 Z = true) (ws : List Jvm.Cond) (p1 : Int32) (p2 : Int32) (p3 : Int32) (p4 : Int32) (p5 : Int32) (p6 : Int32) (h0 : Heap) (n0 : Nat) (Z0 : n0 ≤ h0.size)  :
    OMet l Z x code maxLocals ret ws room_1 #[(.int p1), (.int p2), (.int p3), (.int p4), (.int p5), (.int p6)] h0 (own_Q_rm0 Z p1 p2 p3 p4 p5 p6 h0 n0) := by
  refine MetFree.of_bodySF (plainFor_of_name own_pn1) hisR ?_
  intro p e s m args below meth c s₁ Bd hml0 hP hK
  obtain ⟨rfl, hZ, hh⟩ := hP
  have hx := Bd.exec
  have hby := Bd.bytes
  have hml : c.maxLocals = 22 := hml0
  have hown : s.vm.findClass "com/example/locator/locator/ByteSetAddAllPinLaw" = some m.cls := findClass_of_methodNamed Bd.named
  have hnm := (name_of_methodNamed Bd.named Bd.method).1
  have hlk : meth.locks = false := Bd.notSynchronized
  have X0 : Stand p l e room_1 s m #[(.int p1), (.int p2), (.int p3), (.int p4), (.int p5), (.int p6)] below meth c s₁ [] 0 0 := Stand.of_body Bd
  have e0 : s₁.heap = h0 := by rw [← hh, Bd.state]; rfl
  have N0 := Fr.nil n0
  refine OGo.enter (P := OPost s (own_Q_rm0 Z p1 p2 p3 p4 p5 p6 h0 n0) room_1.cells room_1.slots) (own_ef_rm0 m p1 p2 p3 p4 p5 p6) ?_
  show OGo p.tables e below _ (s₁.setTop (mkF m 0 #[.val (.int p1), .val (.int p2), .val (.int p3), .val (.int p4), .val (.int p5), .val (.int p6), .unset, .unset, .unset, .unset, .unset, .unset, .unset, .unset, .unset, .unset, .unset, .unset, .unset, .unset, .unset, .unset] []))
  refine OGo.st (fun _ k_ => XS.iloadN X0.here hx rfl (hb hby at_0) rfl k_) ?_
  show OGo p.tables e below _ (s₁.setTop (mkF m 1 #[.val (.int p1), .val (.int p2), .val (.int p3), .val (.int p4), .val (.int p5), .val (.int p6), .unset, .unset, .unset, .unset, .unset, .unset, .unset, .unset, .unset, .unset, .unset, .unset, .unset, .unset, .unset, .unset] [(.int p1)]))
  refine OGo.st (fun _ k_ => XS.sipush X0.here hx rfl (hb hby at_1) k_) ?_
  show OGo p.tables e below _ (s₁.setTop (mkF m 4 #[.val (.int p1), .val (.int p2), .val (.int p3), .val (.int p4), .val (.int p5), .val (.int p6), .unset, .unset, .unset, .unset, .unset, .unset, .unset, .unset, .unset, .unset, .unset, .unset, .unset, .unset, .unset, .unset] [(.int (255 : Int32)), (.int p1)]))
  refine OGo.st (fun _ k_ => XS.iand X0.here hx rfl (hb hby at_4) rfl k_) ?_
  show OGo p.tables e below _ (s₁.setTop (mkF m 5 #[.val (.int p1), .val (.int p2), .val (.int p3), .val (.int p4), .val (.int p5), .val (.int p6), .unset, .unset, .unset, .unset, .unset, .unset, .unset, .unset, .unset, .unset, .unset, .unset, .unset, .unset, .unset, .unset] [(.int (p1 &&& (255 : Int32)))]))
  obtain ⟨ra1, hra1⟩ : ∃ z : Int32, z = (p1 &&& (255 : Int32)) := ⟨_, rfl⟩
  rw [← hra1]
  have hra1_ : own_nn ra1 < 256 := by rw [hra1]; exact own_255 _
  show OGo p.tables e below _ (s₁.setTop (mkF m 5 #[.val (.int p1), .val (.int p2), .val (.int p3), .val (.int p4), .val (.int p5), .val (.int p6), .unset, .unset, .unset, .unset, .unset, .unset, .unset, .unset, .unset, .unset, .unset, .unset, .unset, .unset, .unset, .unset] [(.int ra1)]))
  refine OGo.st (fun _ k_ => XS.istore X0.here hx rfl (hb hby at_5) rfl (l' := #[.val (.int p1), .val (.int p2), .val (.int p3), .val (.int p4), .val (.int p5), .val (.int p6), .val (.int ra1), .unset, .unset, .unset, .unset, .unset, .unset, .unset, .unset, .unset, .unset, .unset, .unset, .unset, .unset, .unset]) rfl k_) ?_
  show OGo p.tables e below _ (s₁.setTop (mkF m 7 #[.val (.int p1), .val (.int p2), .val (.int p3), .val (.int p4), .val (.int p5), .val (.int p6), .val (.int ra1), .unset, .unset, .unset, .unset, .unset, .unset, .unset, .unset, .unset, .unset, .unset, .unset, .unset, .unset, .unset] []))
  refine OGo.st (fun _ k_ => XS.iloadN X0.here hx rfl (hb hby at_7) rfl k_) ?_
  show OGo p.tables e below _ (s₁.setTop (mkF m 8 #[.val (.int p1), .val (.int p2), .val (.int p3), .val (.int p4), .val (.int p5), .val (.int p6), .val (.int ra1), .unset, .unset, .unset, .unset, .unset, .unset, .unset, .unset, .unset, .unset, .unset, .unset, .unset, .unset, .unset] [(.int p2)]))
  refine OGo.st (fun _ k_ => XS.sipush X0.here hx rfl (hb hby at_8) k_) ?_
  show OGo p.tables e below _ (s₁.setTop (mkF m 11 #[.val (.int p1), .val (.int p2), .val (.int p3), .val (.int p4), .val (.int p5), .val (.int p6), .val (.int ra1), .unset, .unset, .unset, .unset, .unset, .unset, .unset, .unset, .unset, .unset, .unset, .unset, .unset, .unset, .unset] [(.int (255 : Int32)), (.int p2)]))
  refine OGo.st (fun _ k_ => XS.iand X0.here hx rfl (hb hby at_11) rfl k_) ?_
  show OGo p.tables e below _ (s₁.setTop (mkF m 12 #[.val (.int p1), .val (.int p2), .val (.int p3), .val (.int p4), .val (.int p5), .val (.int p6), .val (.int ra1), .unset, .unset, .unset, .unset, .unset, .unset, .unset, .unset, .unset, .unset, .unset, .unset, .unset, .unset, .unset] [(.int (p2 &&& (255 : Int32)))]))
  obtain ⟨ra2, hra2⟩ : ∃ z : Int32, z = (p2 &&& (255 : Int32)) := ⟨_, rfl⟩
  rw [← hra2]
  have hra2_ : own_nn ra2 < 256 := by rw [hra2]; exact own_255 _
  show OGo p.tables e below _ (s₁.setTop (mkF m 12 #[.val (.int p1), .val (.int p2), .val (.int p3), .val (.int p4), .val (.int p5), .val (.int p6), .val (.int ra1), .unset, .unset, .unset, .unset, .unset, .unset, .unset, .unset, .unset, .unset, .unset, .unset, .unset, .unset, .unset] [(.int ra2)]))
  refine OGo.st (fun _ k_ => XS.istore X0.here hx rfl (hb hby at_12) rfl (l' := #[.val (.int p1), .val (.int p2), .val (.int p3), .val (.int p4), .val (.int p5), .val (.int p6), .val (.int ra1), .val (.int ra2), .unset, .unset, .unset, .unset, .unset, .unset, .unset, .unset, .unset, .unset, .unset, .unset, .unset, .unset]) rfl k_) ?_
  show OGo p.tables e below _ (s₁.setTop (mkF m 14 #[.val (.int p1), .val (.int p2), .val (.int p3), .val (.int p4), .val (.int p5), .val (.int p6), .val (.int ra1), .val (.int ra2), .unset, .unset, .unset, .unset, .unset, .unset, .unset, .unset, .unset, .unset, .unset, .unset, .unset, .unset] []))
  refine OGo.st (fun _ k_ => XS.iloadN X0.here hx rfl (hb hby at_14) rfl k_) ?_
  show OGo p.tables e below _ (s₁.setTop (mkF m 15 #[.val (.int p1), .val (.int p2), .val (.int p3), .val (.int p4), .val (.int p5), .val (.int p6), .val (.int ra1), .val (.int ra2), .unset, .unset, .unset, .unset, .unset, .unset, .unset, .unset, .unset, .unset, .unset, .unset, .unset, .unset] [(.int p3)]))
  refine OGo.st (fun _ k_ => XS.sipush X0.here hx rfl (hb hby at_15) k_) ?_
  show OGo p.tables e below _ (s₁.setTop (mkF m 18 #[.val (.int p1), .val (.int p2), .val (.int p3), .val (.int p4), .val (.int p5), .val (.int p6), .val (.int ra1), .val (.int ra2), .unset, .unset, .unset, .unset, .unset, .unset, .unset, .unset, .unset, .unset, .unset, .unset, .unset, .unset] [(.int (255 : Int32)), (.int p3)]))
  refine OGo.st (fun _ k_ => XS.iand X0.here hx rfl (hb hby at_18) rfl k_) ?_
  show OGo p.tables e below _ (s₁.setTop (mkF m 19 #[.val (.int p1), .val (.int p2), .val (.int p3), .val (.int p4), .val (.int p5), .val (.int p6), .val (.int ra1), .val (.int ra2), .unset, .unset, .unset, .unset, .unset, .unset, .unset, .unset, .unset, .unset, .unset, .unset, .unset, .unset] [(.int (p3 &&& (255 : Int32)))]))
  obtain ⟨rb1, hrb1⟩ : ∃ z : Int32, z = (p3 &&& (255 : Int32)) := ⟨_, rfl⟩
  rw [← hrb1]
  have hrb1_ : own_nn rb1 < 256 := by rw [hrb1]; exact own_255 _
  show OGo p.tables e below _ (s₁.setTop (mkF m 19 #[.val (.int p1), .val (.int p2), .val (.int p3), .val (.int p4), .val (.int p5), .val (.int p6), .val (.int ra1), .val (.int ra2), .unset, .unset, .unset, .unset, .unset, .unset, .unset, .unset, .unset, .unset, .unset, .unset, .unset, .unset] [(.int rb1)]))
  refine OGo.st (fun _ k_ => XS.istore X0.here hx rfl (hb hby at_19) rfl (l' := #[.val (.int p1), .val (.int p2), .val (.int p3), .val (.int p4), .val (.int p5), .val (.int p6), .val (.int ra1), .val (.int ra2), .val (.int rb1), .unset, .unset, .unset, .unset, .unset, .unset, .unset, .unset, .unset, .unset, .unset, .unset, .unset]) rfl k_) ?_
  show OGo p.tables e below _ (s₁.setTop (mkF m 21 #[.val (.int p1), .val (.int p2), .val (.int p3), .val (.int p4), .val (.int p5), .val (.int p6), .val (.int ra1), .val (.int ra2), .val (.int rb1), .unset, .unset, .unset, .unset, .unset, .unset, .unset, .unset, .unset, .unset, .unset, .unset, .unset] []))
  refine OGo.st (fun _ k_ => XS.iloadN X0.here hx rfl (hb hby at_21) rfl k_) ?_
  show OGo p.tables e below _ (s₁.setTop (mkF m 22 #[.val (.int p1), .val (.int p2), .val (.int p3), .val (.int p4), .val (.int p5), .val (.int p6), .val (.int ra1), .val (.int ra2), .val (.int rb1), .unset, .unset, .unset, .unset, .unset, .unset, .unset, .unset, .unset, .unset, .unset, .unset, .unset] [(.int p4)]))
  refine OGo.st (fun _ k_ => XS.sipush X0.here hx rfl (hb hby at_22) k_) ?_
  show OGo p.tables e below _ (s₁.setTop (mkF m 25 #[.val (.int p1), .val (.int p2), .val (.int p3), .val (.int p4), .val (.int p5), .val (.int p6), .val (.int ra1), .val (.int ra2), .val (.int rb1), .unset, .unset, .unset, .unset, .unset, .unset, .unset, .unset, .unset, .unset, .unset, .unset, .unset] [(.int (255 : Int32)), (.int p4)]))
  refine OGo.st (fun _ k_ => XS.iand X0.here hx rfl (hb hby at_25) rfl k_) ?_
  show OGo p.tables e below _ (s₁.setTop (mkF m 26 #[.val (.int p1), .val (.int p2), .val (.int p3), .val (.int p4), .val (.int p5), .val (.int p6), .val (.int ra1), .val (.int ra2), .val (.int rb1), .unset, .unset, .unset, .unset, .unset, .unset, .unset, .unset, .unset, .unset, .unset, .unset, .unset] [(.int (p4 &&& (255 : Int32)))]))
  obtain ⟨rb2, hrb2⟩ : ∃ z : Int32, z = (p4 &&& (255 : Int32)) := ⟨_, rfl⟩
  rw [← hrb2]
  have hrb2_ : own_nn rb2 < 256 := by rw [hrb2]; exact own_255 _
  show OGo p.tables e below _ (s₁.setTop (mkF m 26 #[.val (.int p1), .val (.int p2), .val (.int p3), .val (.int p4), .val (.int p5), .val (.int p6), .val (.int ra1), .val (.int ra2), .val (.int rb1), .unset, .unset, .unset, .unset, .unset, .unset, .unset, .unset, .unset, .unset, .unset, .unset, .unset] [(.int rb2)]))
  refine OGo.st (fun _ k_ => XS.istore X0.here hx rfl (hb hby at_26) rfl (l' := #[.val (.int p1), .val (.int p2), .val (.int p3), .val (.int p4), .val (.int p5), .val (.int p6), .val (.int ra1), .val (.int ra2), .val (.int rb1), .val (.int rb2), .unset, .unset, .unset, .unset, .unset, .unset, .unset, .unset, .unset, .unset, .unset, .unset]) rfl k_) ?_
  show OGo p.tables e below _ (s₁.setTop (mkF m 28 #[.val (.int p1), .val (.int p2), .val (.int p3), .val (.int p4), .val (.int p5), .val (.int p6), .val (.int ra1), .val (.int ra2), .val (.int rb1), .val (.int rb2), .unset, .unset, .unset, .unset, .unset, .unset, .unset, .unset, .unset, .unset, .unset, .unset] []))
  refine OGo.st (fun _ k_ => XS.iload X0.here hx rfl (hb hby at_28) rfl k_) ?_
  show OGo p.tables e below _ (s₁.setTop (mkF m 30 #[.val (.int p1), .val (.int p2), .val (.int p3), .val (.int p4), .val (.int p5), .val (.int p6), .val (.int ra1), .val (.int ra2), .val (.int rb1), .val (.int rb2), .unset, .unset, .unset, .unset, .unset, .unset, .unset, .unset, .unset, .unset, .unset, .unset] [(.int p5)]))
  refine OGo.st (fun _ k_ => XS.sipush X0.here hx rfl (hb hby at_30) k_) ?_
  show OGo p.tables e below _ (s₁.setTop (mkF m 33 #[.val (.int p1), .val (.int p2), .val (.int p3), .val (.int p4), .val (.int p5), .val (.int p6), .val (.int ra1), .val (.int ra2), .val (.int rb1), .val (.int rb2), .unset, .unset, .unset, .unset, .unset, .unset, .unset, .unset, .unset, .unset, .unset, .unset] [(.int (255 : Int32)), (.int p5)]))
  refine OGo.st (fun _ k_ => XS.iand X0.here hx rfl (hb hby at_33) rfl k_) ?_
  show OGo p.tables e below _ (s₁.setTop (mkF m 34 #[.val (.int p1), .val (.int p2), .val (.int p3), .val (.int p4), .val (.int p5), .val (.int p6), .val (.int ra1), .val (.int ra2), .val (.int rb1), .val (.int rb2), .unset, .unset, .unset, .unset, .unset, .unset, .unset, .unset, .unset, .unset, .unset, .unset] [(.int (p5 &&& (255 : Int32)))]))
  obtain ⟨pp, hpp⟩ : ∃ z : Int32, z = (p5 &&& (255 : Int32)) := ⟨_, rfl⟩
  rw [← hpp]
  have hpp_ : own_nn pp < 256 := by rw [hpp]; exact own_255 _
  show OGo p.tables e below _ (s₁.setTop (mkF m 34 #[.val (.int p1), .val (.int p2), .val (.int p3), .val (.int p4), .val (.int p5), .val (.int p6), .val (.int ra1), .val (.int ra2), .val (.int rb1), .val (.int rb2), .unset, .unset, .unset, .unset, .unset, .unset, .unset, .unset, .unset, .unset, .unset, .unset] [(.int pp)]))
  refine OGo.st (fun _ k_ => XS.istore X0.here hx rfl (hb hby at_34) rfl (l' := #[.val (.int p1), .val (.int p2), .val (.int p3), .val (.int p4), .val (.int p5), .val (.int p6), .val (.int ra1), .val (.int ra2), .val (.int rb1), .val (.int rb2), .val (.int pp), .unset, .unset, .unset, .unset, .unset, .unset, .unset, .unset, .unset, .unset, .unset]) rfl k_) ?_
  obtain ⟨vnA, hvz1, st1⟩ : ∃ vnA : Int32, vnA = (if (p6 &&& (1 : Int32)) = 0 then (0 : Int32) else (1 : Int32)) ∧ ∀ t, Steps p.tables e below (s₁.setTop (mkF m 48 #[.val (.int p1), .val (.int p2), .val (.int p3), .val (.int p4), .val (.int p5), .val (.int p6), .val (.int ra1), .val (.int ra2), .val (.int rb1), .val (.int rb2), .val (.int pp), .unset, .unset, .unset, .unset, .unset, .unset, .unset, .unset, .unset, .unset, .unset] [(.int vnA)])) t → Steps p.tables e below (s₁.setTop (mkF m 36 #[.val (.int p1), .val (.int p2), .val (.int p3), .val (.int p4), .val (.int p5), .val (.int p6), .val (.int ra1), .val (.int ra2), .val (.int rb1), .val (.int rb2), .val (.int pp), .unset, .unset, .unset, .unset, .unset, .unset, .unset, .unset, .unset, .unset, .unset] [])) t := by
    refine ⟨_, rfl, fun t k => ?_⟩
    show Steps p.tables e below (s₁.setTop (mkF m 36 #[.val (.int p1), .val (.int p2), .val (.int p3), .val (.int p4), .val (.int p5), .val (.int p6), .val (.int ra1), .val (.int ra2), .val (.int rb1), .val (.int rb2), .val (.int pp), .unset, .unset, .unset, .unset, .unset, .unset, .unset, .unset, .unset, .unset, .unset] [])) _
    refine XS.iload X0.here hx rfl (hb hby at_36) rfl ?_
    show Steps p.tables e below (s₁.setTop (mkF m 38 #[.val (.int p1), .val (.int p2), .val (.int p3), .val (.int p4), .val (.int p5), .val (.int p6), .val (.int ra1), .val (.int ra2), .val (.int rb1), .val (.int rb2), .val (.int pp), .unset, .unset, .unset, .unset, .unset, .unset, .unset, .unset, .unset, .unset, .unset] [(.int p6)])) _
    refine XS.iconst X0.here hx rfl (hb hby at_38) ?_
    show Steps p.tables e below (s₁.setTop (mkF m 39 #[.val (.int p1), .val (.int p2), .val (.int p3), .val (.int p4), .val (.int p5), .val (.int p6), .val (.int ra1), .val (.int ra2), .val (.int rb1), .val (.int rb2), .val (.int pp), .unset, .unset, .unset, .unset, .unset, .unset, .unset, .unset, .unset, .unset, .unset] [(.int (1 : Int32)), (.int p6)])) _
    refine XS.iand X0.here hx rfl (hb hby at_39) rfl ?_
    show Steps p.tables e below (s₁.setTop (mkF m 40 #[.val (.int p1), .val (.int p2), .val (.int p3), .val (.int p4), .val (.int p5), .val (.int p6), .val (.int ra1), .val (.int ra2), .val (.int rb1), .val (.int rb2), .val (.int pp), .unset, .unset, .unset, .unset, .unset, .unset, .unset, .unset, .unset, .unset, .unset] [(.int (p6 &&& (1 : Int32)))])) _
    by_cases hs40 : (p6 &&& (1 : Int32)) = 0
    · rw [if_pos hs40] at k
      refine XS.ifYes X0.here hx rfl (pc0 := 40) (pc' := 47) rfl (hb hby at_40) rfl (XT.i0_eq_t hs40) (by decide) (by decide) ?_
      show Steps p.tables e below (s₁.setTop (mkF m 47 #[.val (.int p1), .val (.int p2), .val (.int p3), .val (.int p4), .val (.int p5), .val (.int p6), .val (.int ra1), .val (.int ra2), .val (.int rb1), .val (.int rb2), .val (.int pp), .unset, .unset, .unset, .unset, .unset, .unset, .unset, .unset, .unset, .unset, .unset] [])) _
      refine XS.iconst X0.here hx rfl (hb hby at_47) ?_
      exact k
    · rw [if_neg hs40] at k
      refine XS.ifNo X0.here hx rfl (hb hby at_40) rfl (XT.i0_eq_f hs40) ?_
      show Steps p.tables e below (s₁.setTop (mkF m 43 #[.val (.int p1), .val (.int p2), .val (.int p3), .val (.int p4), .val (.int p5), .val (.int p6), .val (.int ra1), .val (.int ra2), .val (.int rb1), .val (.int rb2), .val (.int pp), .unset, .unset, .unset, .unset, .unset, .unset, .unset, .unset, .unset, .unset, .unset] [])) _
      refine XS.iconst X0.here hx rfl (hb hby at_43) ?_
      show Steps p.tables e below (s₁.setTop (mkF m 44 #[.val (.int p1), .val (.int p2), .val (.int p3), .val (.int p4), .val (.int p5), .val (.int p6), .val (.int ra1), .val (.int ra2), .val (.int rb1), .val (.int rb2), .val (.int pp), .unset, .unset, .unset, .unset, .unset, .unset, .unset, .unset, .unset, .unset, .unset] [(.int (1 : Int32))])) _
      refine XS.goto X0.here hx rfl (pc0 := 44) (pc' := 48) rfl (hb hby at_44) (by decide) (by decide) ?_
      exact k
  refine OGo.st st1 ?_
  show OGo p.tables e below _ (s₁.setTop (mkF m 48 #[.val (.int p1), .val (.int p2), .val (.int p3), .val (.int p4), .val (.int p5), .val (.int p6), .val (.int ra1), .val (.int ra2), .val (.int rb1), .val (.int rb2), .val (.int pp), .unset, .unset, .unset, .unset, .unset, .unset, .unset, .unset, .unset, .unset, .unset] [(.int vnA)]))
  refine OGo.st (fun _ k_ => XS.istore X0.here hx rfl (hb hby at_48) rfl (l' := #[.val (.int p1), .val (.int p2), .val (.int p3), .val (.int p4), .val (.int p5), .val (.int p6), .val (.int ra1), .val (.int ra2), .val (.int rb1), .val (.int rb2), .val (.int pp), .val (.int vnA), .unset, .unset, .unset, .unset, .unset, .unset, .unset, .unset, .unset, .unset]) rfl k_) ?_
  obtain ⟨vnB, hvz2, st2⟩ : ∃ vnB : Int32, vnB = (if (p6 &&& (2 : Int32)) = 0 then (0 : Int32) else (1 : Int32)) ∧ ∀ t, Steps p.tables e below (s₁.setTop (mkF m 62 #[.val (.int p1), .val (.int p2), .val (.int p3), .val (.int p4), .val (.int p5), .val (.int p6), .val (.int ra1), .val (.int ra2), .val (.int rb1), .val (.int rb2), .val (.int pp), .val (.int vnA), .unset, .unset, .unset, .unset, .unset, .unset, .unset, .unset, .unset, .unset] [(.int vnB)])) t → Steps p.tables e below (s₁.setTop (mkF m 50 #[.val (.int p1), .val (.int p2), .val (.int p3), .val (.int p4), .val (.int p5), .val (.int p6), .val (.int ra1), .val (.int ra2), .val (.int rb1), .val (.int rb2), .val (.int pp), .val (.int vnA), .unset, .unset, .unset, .unset, .unset, .unset, .unset, .unset, .unset, .unset] [])) t := by
    refine ⟨_, rfl, fun t k => ?_⟩
    show Steps p.tables e below (s₁.setTop (mkF m 50 #[.val (.int p1), .val (.int p2), .val (.int p3), .val (.int p4), .val (.int p5), .val (.int p6), .val (.int ra1), .val (.int ra2), .val (.int rb1), .val (.int rb2), .val (.int pp), .val (.int vnA), .unset, .unset, .unset, .unset, .unset, .unset, .unset, .unset, .unset, .unset] [])) _
    refine XS.iload X0.here hx rfl (hb hby at_50) rfl ?_
    show Steps p.tables e below (s₁.setTop (mkF m 52 #[.val (.int p1), .val (.int p2), .val (.int p3), .val (.int p4), .val (.int p5), .val (.int p6), .val (.int ra1), .val (.int ra2), .val (.int rb1), .val (.int rb2), .val (.int pp), .val (.int vnA), .unset, .unset, .unset, .unset, .unset, .unset, .unset, .unset, .unset, .unset] [(.int p6)])) _
    refine XS.iconst X0.here hx rfl (hb hby at_52) ?_
    show Steps p.tables e below (s₁.setTop (mkF m 53 #[.val (.int p1), .val (.int p2), .val (.int p3), .val (.int p4), .val (.int p5), .val (.int p6), .val (.int ra1), .val (.int ra2), .val (.int rb1), .val (.int rb2), .val (.int pp), .val (.int vnA), .unset, .unset, .unset, .unset, .unset, .unset, .unset, .unset, .unset, .unset] [(.int (2 : Int32)), (.int p6)])) _
    refine XS.iand X0.here hx rfl (hb hby at_53) rfl ?_
    show Steps p.tables e below (s₁.setTop (mkF m 54 #[.val (.int p1), .val (.int p2), .val (.int p3), .val (.int p4), .val (.int p5), .val (.int p6), .val (.int ra1), .val (.int ra2), .val (.int rb1), .val (.int rb2), .val (.int pp), .val (.int vnA), .unset, .unset, .unset, .unset, .unset, .unset, .unset, .unset, .unset, .unset] [(.int (p6 &&& (2 : Int32)))])) _
    by_cases hs54 : (p6 &&& (2 : Int32)) = 0
    · rw [if_pos hs54] at k
      refine XS.ifYes X0.here hx rfl (pc0 := 54) (pc' := 61) rfl (hb hby at_54) rfl (XT.i0_eq_t hs54) (by decide) (by decide) ?_
      show Steps p.tables e below (s₁.setTop (mkF m 61 #[.val (.int p1), .val (.int p2), .val (.int p3), .val (.int p4), .val (.int p5), .val (.int p6), .val (.int ra1), .val (.int ra2), .val (.int rb1), .val (.int rb2), .val (.int pp), .val (.int vnA), .unset, .unset, .unset, .unset, .unset, .unset, .unset, .unset, .unset, .unset] [])) _
      refine XS.iconst X0.here hx rfl (hb hby at_61) ?_
      exact k
    · rw [if_neg hs54] at k
      refine XS.ifNo X0.here hx rfl (hb hby at_54) rfl (XT.i0_eq_f hs54) ?_
      show Steps p.tables e below (s₁.setTop (mkF m 57 #[.val (.int p1), .val (.int p2), .val (.int p3), .val (.int p4), .val (.int p5), .val (.int p6), .val (.int ra1), .val (.int ra2), .val (.int rb1), .val (.int rb2), .val (.int pp), .val (.int vnA), .unset, .unset, .unset, .unset, .unset, .unset, .unset, .unset, .unset, .unset] [])) _
      refine XS.iconst X0.here hx rfl (hb hby at_57) ?_
      show Steps p.tables e below (s₁.setTop (mkF m 58 #[.val (.int p1), .val (.int p2), .val (.int p3), .val (.int p4), .val (.int p5), .val (.int p6), .val (.int ra1), .val (.int ra2), .val (.int rb1), .val (.int rb2), .val (.int pp), .val (.int vnA), .unset, .unset, .unset, .unset, .unset, .unset, .unset, .unset, .unset, .unset] [(.int (1 : Int32))])) _
      refine XS.goto X0.here hx rfl (pc0 := 58) (pc' := 62) rfl (hb hby at_58) (by decide) (by decide) ?_
      exact k
  refine OGo.st st2 ?_
  show OGo p.tables e below _ (s₁.setTop (mkF m 62 #[.val (.int p1), .val (.int p2), .val (.int p3), .val (.int p4), .val (.int p5), .val (.int p6), .val (.int ra1), .val (.int ra2), .val (.int rb1), .val (.int rb2), .val (.int pp), .val (.int vnA), .unset, .unset, .unset, .unset, .unset, .unset, .unset, .unset, .unset, .unset] [(.int vnB)]))
  refine OGo.st (fun _ k_ => XS.istore X0.here hx rfl (hb hby at_62) rfl (l' := #[.val (.int p1), .val (.int p2), .val (.int p3), .val (.int p4), .val (.int p5), .val (.int p6), .val (.int ra1), .val (.int ra2), .val (.int rb1), .val (.int rb2), .val (.int pp), .val (.int vnA), .val (.int vnB), .unset, .unset, .unset, .unset, .unset, .unset, .unset, .unset, .unset]) rfl k_) ?_
  obtain ⟨vsf, hvz3, st3⟩ : ∃ vsf : Int32, vsf = (if (p6 &&& (4 : Int32)) = 0 then (0 : Int32) else (1 : Int32)) ∧ ∀ t, Steps p.tables e below (s₁.setTop (mkF m 76 #[.val (.int p1), .val (.int p2), .val (.int p3), .val (.int p4), .val (.int p5), .val (.int p6), .val (.int ra1), .val (.int ra2), .val (.int rb1), .val (.int rb2), .val (.int pp), .val (.int vnA), .val (.int vnB), .unset, .unset, .unset, .unset, .unset, .unset, .unset, .unset, .unset] [(.int vsf)])) t → Steps p.tables e below (s₁.setTop (mkF m 64 #[.val (.int p1), .val (.int p2), .val (.int p3), .val (.int p4), .val (.int p5), .val (.int p6), .val (.int ra1), .val (.int ra2), .val (.int rb1), .val (.int rb2), .val (.int pp), .val (.int vnA), .val (.int vnB), .unset, .unset, .unset, .unset, .unset, .unset, .unset, .unset, .unset] [])) t := by
    refine ⟨_, rfl, fun t k => ?_⟩
    show Steps p.tables e below (s₁.setTop (mkF m 64 #[.val (.int p1), .val (.int p2), .val (.int p3), .val (.int p4), .val (.int p5), .val (.int p6), .val (.int ra1), .val (.int ra2), .val (.int rb1), .val (.int rb2), .val (.int pp), .val (.int vnA), .val (.int vnB), .unset, .unset, .unset, .unset, .unset, .unset, .unset, .unset, .unset] [])) _
    refine XS.iload X0.here hx rfl (hb hby at_64) rfl ?_
    show Steps p.tables e below (s₁.setTop (mkF m 66 #[.val (.int p1), .val (.int p2), .val (.int p3), .val (.int p4), .val (.int p5), .val (.int p6), .val (.int ra1), .val (.int ra2), .val (.int rb1), .val (.int rb2), .val (.int pp), .val (.int vnA), .val (.int vnB), .unset, .unset, .unset, .unset, .unset, .unset, .unset, .unset, .unset] [(.int p6)])) _
    refine XS.iconst X0.here hx rfl (hb hby at_66) ?_
    show Steps p.tables e below (s₁.setTop (mkF m 67 #[.val (.int p1), .val (.int p2), .val (.int p3), .val (.int p4), .val (.int p5), .val (.int p6), .val (.int ra1), .val (.int ra2), .val (.int rb1), .val (.int rb2), .val (.int pp), .val (.int vnA), .val (.int vnB), .unset, .unset, .unset, .unset, .unset, .unset, .unset, .unset, .unset] [(.int (4 : Int32)), (.int p6)])) _
    refine XS.iand X0.here hx rfl (hb hby at_67) rfl ?_
    show Steps p.tables e below (s₁.setTop (mkF m 68 #[.val (.int p1), .val (.int p2), .val (.int p3), .val (.int p4), .val (.int p5), .val (.int p6), .val (.int ra1), .val (.int ra2), .val (.int rb1), .val (.int rb2), .val (.int pp), .val (.int vnA), .val (.int vnB), .unset, .unset, .unset, .unset, .unset, .unset, .unset, .unset, .unset] [(.int (p6 &&& (4 : Int32)))])) _
    by_cases hs68 : (p6 &&& (4 : Int32)) = 0
    · rw [if_pos hs68] at k
      refine XS.ifYes X0.here hx rfl (pc0 := 68) (pc' := 75) rfl (hb hby at_68) rfl (XT.i0_eq_t hs68) (by decide) (by decide) ?_
      show Steps p.tables e below (s₁.setTop (mkF m 75 #[.val (.int p1), .val (.int p2), .val (.int p3), .val (.int p4), .val (.int p5), .val (.int p6), .val (.int ra1), .val (.int ra2), .val (.int rb1), .val (.int rb2), .val (.int pp), .val (.int vnA), .val (.int vnB), .unset, .unset, .unset, .unset, .unset, .unset, .unset, .unset, .unset] [])) _
      refine XS.iconst X0.here hx rfl (hb hby at_75) ?_
      exact k
    · rw [if_neg hs68] at k
      refine XS.ifNo X0.here hx rfl (hb hby at_68) rfl (XT.i0_eq_f hs68) ?_
      show Steps p.tables e below (s₁.setTop (mkF m 71 #[.val (.int p1), .val (.int p2), .val (.int p3), .val (.int p4), .val (.int p5), .val (.int p6), .val (.int ra1), .val (.int ra2), .val (.int rb1), .val (.int rb2), .val (.int pp), .val (.int vnA), .val (.int vnB), .unset, .unset, .unset, .unset, .unset, .unset, .unset, .unset, .unset] [])) _
      refine XS.iconst X0.here hx rfl (hb hby at_71) ?_
      show Steps p.tables e below (s₁.setTop (mkF m 72 #[.val (.int p1), .val (.int p2), .val (.int p3), .val (.int p4), .val (.int p5), .val (.int p6), .val (.int ra1), .val (.int ra2), .val (.int rb1), .val (.int rb2), .val (.int pp), .val (.int vnA), .val (.int vnB), .unset, .unset, .unset, .unset, .unset, .unset, .unset, .unset, .unset] [(.int (1 : Int32))])) _
      refine XS.goto X0.here hx rfl (pc0 := 72) (pc' := 76) rfl (hb hby at_72) (by decide) (by decide) ?_
      exact k
  refine OGo.st st3 ?_
  show OGo p.tables e below _ (s₁.setTop (mkF m 76 #[.val (.int p1), .val (.int p2), .val (.int p3), .val (.int p4), .val (.int p5), .val (.int p6), .val (.int ra1), .val (.int ra2), .val (.int rb1), .val (.int rb2), .val (.int pp), .val (.int vnA), .val (.int vnB), .unset, .unset, .unset, .unset, .unset, .unset, .unset, .unset, .unset] [(.int vsf)]))
  refine OGo.st (fun _ k_ => XS.istore X0.here hx rfl (hb hby at_76) rfl (l' := #[.val (.int p1), .val (.int p2), .val (.int p3), .val (.int p4), .val (.int p5), .val (.int p6), .val (.int ra1), .val (.int ra2), .val (.int rb1), .val (.int rb2), .val (.int pp), .val (.int vnA), .val (.int vnB), .val (.int vsf), .unset, .unset, .unset, .unset, .unset, .unset, .unset, .unset]) rfl k_) ?_
  show OGo p.tables e below _ (s₁.setTop (mkF m 78 #[.val (.int p1), .val (.int p2), .val (.int p3), .val (.int p4), .val (.int p5), .val (.int p6), .val (.int ra1), .val (.int ra2), .val (.int rb1), .val (.int rb2), .val (.int pp), .val (.int vnA), .val (.int vnB), .val (.int vsf), .unset, .unset, .unset, .unset, .unset, .unset, .unset, .unset] []))
  obtain ⟨T4, hz4, X4, ez4, Ez4, Az4, Dz4, -, st4⟩ := newO X0 hx hZ hown (hw _ (List.mem_of_getElem? (i := 0) rfl)) (hw _ (List.mem_of_getElem? (i := 1) rfl)) (hw _ (List.mem_of_getElem? (i := 2) rfl)) e0 (g := (mkF m 78 #[.val (.int p1), .val (.int p2), .val (.int p3), .val (.int p4), .val (.int p5), .val (.int p6), .val (.int ra1), .val (.int ra2), .val (.int rb1), .val (.int rb2), .val (.int pp), .val (.int vnA), .val (.int vnB), .val (.int vsf), .unset, .unset, .unset, .unset, .unset, .unset, .unset, .unset] [])) rfl (hb hby at_78) (by decide) (by decide)
  obtain ⟨bz4, g4⟩ : ∃ z, z = h0.size := ⟨_, rfl⟩
  rw [← g4] at Az4 Dz4 st4
  have g_bz4 : n0 ≤ bz4 := Nat.le_trans (Nat.le_trans Z0 (Keep.refl h0 []).1) (Nat.le_of_eq g4.symm)
  have sz_bz4 : h0.size ≤ bz4 := Nat.le_trans (Keep.refl h0 []).1 (Nat.le_of_eq g4.symm)
  have K_5 : Keep h0 hz4 [] := (Keep.refl h0 []).ext Ez4
  have F_words_4 : Fld Z hz4 bz4 "com/example/locator/locator/ByteSet" "words" "[J" .null := Dz4 (Or.inr (hw _ (List.mem_of_getElem? (i := 11) rfl))) (ty := (.array .long)) (by decide)
  refine OGo.st st4 ?_
  show OGo p.tables e below _ (T4.setTop (mkF m 81 #[.val (.int p1), .val (.int p2), .val (.int p3), .val (.int p4), .val (.int p5), .val (.int p6), .val (.int ra1), .val (.int ra2), .val (.int rb1), .val (.int rb2), .val (.int pp), .val (.int vnA), .val (.int vnB), .val (.int vsf), .unset, .unset, .unset, .unset, .unset, .unset, .unset, .unset] [(.ref bz4)]))
  refine OGo.st (fun _ k_ => XS.dup X4.here hx rfl (hb hby at_81) rfl rfl k_) ?_
  show OGo p.tables e below _ (T4.setTop (mkF m 82 #[.val (.int p1), .val (.int p2), .val (.int p3), .val (.int p4), .val (.int p5), .val (.int p6), .val (.int ra1), .val (.int ra2), .val (.int rb1), .val (.int rb2), .val (.int pp), .val (.int vnA), .val (.int vnB), .val (.int vsf), .unset, .unset, .unset, .unset, .unset, .unset, .unset, .unset] [(.ref bz4), (.ref bz4)]))
  obtain ⟨_, _, ⟨T6, Lz6, kz6, nz6⟩, -, X6, ⟨Lc6, hQ6, lz6, yz6, zz6⟩, st6⟩ := X4.specialBack hx (y := (⟨"com/example/locator/locator/ByteSet", "<init>", "()V"⟩ : MethodName)) rfl hown (mvT hZ (hw _ (List.mem_of_getElem? (i := 3) rfl))) (mvT hZ (hw _ (List.mem_of_getElem? (i := 4) rfl))) (mvT hZ (hw _ (List.mem_of_getElem? (i := 5) rfl))) (by decide) (backOf (W := 1) (rm1 l Z a0 hw [] bz4 hz4 n0 (Nat.le_trans Z0 K_5.1) Az4 F_words_4 g_bz4) hZ (hw _ (List.mem_of_getElem? (i := 5) rfl)) (hw _ (List.mem_of_getElem? (i := 2) rfl)) (by decide) (by decide)) (g := (mkF m 82 #[.val (.int p1), .val (.int p2), .val (.int p3), .val (.int p4), .val (.int p5), .val (.int p6), .val (.int ra1), .val (.int ra2), .val (.int rb1), .val (.int rb2), .val (.int pp), .val (.int vnA), .val (.int vnB), .val (.int vsf), .unset, .unset, .unset, .unset, .unset, .unset, .unset, .unset] [(.ref bz4), (.ref bz4)])) rfl (by rw [hml]; rfl) (Steps.refl _) (a := bz4) (argsL := []) (rest := [(.ref bz4)]) (lenOf own_pd0 rfl) rfl (by show 2 * 0 + _ ≤ _; exact Nat.le_of_eq rfl) (hb hby at_82) (fun _ _ => ⟨rfl, ez4, (by decide : 1 + 1 ≤ _), (by decide : 1 + 4 ≤ _)⟩)
  dsimp only [Pt.U, Pt.locs, Pt.cells, Pt.slots] at X6 lz6 yz6 zz6 st6 hQ6
  subst lz6 yz6 zz6
  obtain ⟨rfl, Nq6, Kq6, d6, kd6, szd6, Fd6, Ad6⟩ := hQ6
  have N6 := Fr.app N0 Nq6
  have ne_bz4_d6 : bz4 ≠ d6 := Nat.ne_of_lt (Nat.lt_of_lt_of_le Az4.lt szd6)
  have g_d6 : n0 ≤ d6 := Nat.le_trans (Nat.le_trans Z0 K_5.1) szd6
  have sz_d6 : h0.size ≤ d6 := Nat.le_trans K_5.1 szd6
  have Ex_7 := Az4.keep Kq6
  have K_8 : Keep h0 T6.heap [] := K_5.trans Kq6 (allS (Or.inr sz_bz4) all0)
  refine OGo.tr st6 ?_
  show OGo p.tables e below _ (T6.setTop (mkF m 85 #[.val (.int p1), .val (.int p2), .val (.int p3), .val (.int p4), .val (.int p5), .val (.int p6), .val (.int ra1), .val (.int ra2), .val (.int rb1), .val (.int rb2), .val (.int pp), .val (.int vnA), .val (.int vnB), .val (.int vsf), .unset, .unset, .unset, .unset, .unset, .unset, .unset, .unset] [(.ref bz4)]))
  refine OGo.st (fun _ k_ => XS.astore X6.here hx rfl (hb hby at_85) rfl rfl (l' := #[.val (.int p1), .val (.int p2), .val (.int p3), .val (.int p4), .val (.int p5), .val (.int p6), .val (.int ra1), .val (.int ra2), .val (.int rb1), .val (.int rb2), .val (.int pp), .val (.int vnA), .val (.int vnB), .val (.int vsf), .val (.ref bz4), .unset, .unset, .unset, .unset, .unset, .unset, .unset]) rfl k_) ?_
  show OGo p.tables e below _ (T6.setTop (mkF m 87 #[.val (.int p1), .val (.int p2), .val (.int p3), .val (.int p4), .val (.int p5), .val (.int p6), .val (.int ra1), .val (.int ra2), .val (.int rb1), .val (.int rb2), .val (.int pp), .val (.int vnA), .val (.int vnB), .val (.int vsf), .val (.ref bz4), .unset, .unset, .unset, .unset, .unset, .unset, .unset] []))
  refine OGo.st (fun _ k_ => XS.aload X6.here hx rfl (hb hby at_87) rfl rfl k_) ?_
  show OGo p.tables e below _ (T6.setTop (mkF m 89 #[.val (.int p1), .val (.int p2), .val (.int p3), .val (.int p4), .val (.int p5), .val (.int p6), .val (.int ra1), .val (.int ra2), .val (.int rb1), .val (.int rb2), .val (.int pp), .val (.int vnA), .val (.int vnB), .val (.int vsf), .val (.ref bz4), .unset, .unset, .unset, .unset, .unset, .unset, .unset] [(.ref bz4)]))
  refine OGo.st (fun _ k_ => XS.iload X6.here hx rfl (hb hby at_89) rfl k_) ?_
  show OGo p.tables e below _ (T6.setTop (mkF m 91 #[.val (.int p1), .val (.int p2), .val (.int p3), .val (.int p4), .val (.int p5), .val (.int p6), .val (.int ra1), .val (.int ra2), .val (.int rb1), .val (.int rb2), .val (.int pp), .val (.int vnA), .val (.int vnB), .val (.int vsf), .val (.ref bz4), .unset, .unset, .unset, .unset, .unset, .unset, .unset] [(.int ra1), (.ref bz4)]))
  obtain ⟨cq9, kqz9, qz9a, qz9b, qz9c⟩ := isOf hZ rfl Ex_7
  obtain ⟨_, _, ⟨T9, Lz9, kz9, nz9⟩, -, X9, ⟨Lc9, hQ9, lz9, yz9, zz9⟩, st9⟩ := X6.virtualBack hx (y := (⟨"com/example/locator/locator/ByteSet", "add", "(I)V"⟩ : MethodName)) (z := (⟨"com/example/locator/locator/ByteSet", "add", "(I)V"⟩ : MethodName)) hown (mvT hZ (hw _ (List.mem_of_getElem? (i := 12) rfl))) (mvT hZ (hw _ (List.mem_of_getElem? (i := 13) rfl))) (notFace_of_selects (args := #[]) (mvT hZ (hw _ (List.mem_of_getElem? (i := 15) rfl)))) (mvT hZ (hw _ (List.mem_of_getElem? (i := 15) rfl))) (mvT hZ (hw _ (List.mem_of_getElem? (i := 14) rfl))) (by decide) (backOf (W := 0) (rm2 l Z a0 hw [] bz4 ra1 d6 kd6 (fun _ => 0) T6.heap n0 (Nat.le_trans Z0 K_8.1) Fd6 Ad6 g_d6 ne_bz4_d6 hra1_) hZ (hw _ (List.mem_of_getElem? (i := 16) rfl)) (hw _ (List.mem_of_getElem? (i := 2) rfl)) (by decide) (by decide)) qz9a qz9c (g := (mkF m 91 #[.val (.int p1), .val (.int p2), .val (.int p3), .val (.int p4), .val (.int p5), .val (.int p6), .val (.int ra1), .val (.int ra2), .val (.int rb1), .val (.int rb2), .val (.int pp), .val (.int vnA), .val (.int vnB), .val (.int vsf), .val (.ref bz4), .unset, .unset, .unset, .unset, .unset, .unset, .unset] [(.int ra1), (.ref bz4)])) rfl (by rw [hml]; rfl) (Steps.refl _) (argsL := [(.int ra1)]) (rest := []) (lenOf own_pd1 rfl) rfl (by show 2 * 0 + _ ≤ _; exact Nat.le_of_eq rfl) (hb hby at_91) (fun _ _ => ⟨rfl, rfl, (by decide : 2 + 0 ≤ _), (by decide : 5 + 0 ≤ _)⟩)
  dsimp only [Pt.U, Pt.locs, Pt.cells, Pt.slots] at X9 lz9 yz9 zz9 st9 hQ9
  subst lz9 yz9 zz9
  obtain ⟨rfl, Nq9, Kq9, Aq9⟩ := hQ9
  have N9 := Fr.app N6 Nq9
  have Ex_10 := Ex_7.keep Kq9
  have F_11 := Fd6.keep Kq9 (ninS ne_bz4_d6 nin0)
  have K_12 : Keep h0 T9.heap [] := K_8.trans Kq9 (allS (Or.inr sz_d6) all0)
  refine OGo.tr st9 ?_
  show OGo p.tables e below _ (T9.setTop (mkF m 94 #[.val (.int p1), .val (.int p2), .val (.int p3), .val (.int p4), .val (.int p5), .val (.int p6), .val (.int ra1), .val (.int ra2), .val (.int rb1), .val (.int rb2), .val (.int pp), .val (.int vnA), .val (.int vnB), .val (.int vsf), .val (.ref bz4), .unset, .unset, .unset, .unset, .unset, .unset, .unset] []))
  refine OGo.st (fun _ k_ => XS.aload X9.here hx rfl (hb hby at_94) rfl rfl k_) ?_
  show OGo p.tables e below _ (T9.setTop (mkF m 96 #[.val (.int p1), .val (.int p2), .val (.int p3), .val (.int p4), .val (.int p5), .val (.int p6), .val (.int ra1), .val (.int ra2), .val (.int rb1), .val (.int rb2), .val (.int pp), .val (.int vnA), .val (.int vnB), .val (.int vsf), .val (.ref bz4), .unset, .unset, .unset, .unset, .unset, .unset, .unset] [(.ref bz4)]))
  refine OGo.st (fun _ k_ => XS.iload X9.here hx rfl (hb hby at_96) rfl k_) ?_
  show OGo p.tables e below _ (T9.setTop (mkF m 98 #[.val (.int p1), .val (.int p2), .val (.int p3), .val (.int p4), .val (.int p5), .val (.int p6), .val (.int ra1), .val (.int ra2), .val (.int rb1), .val (.int rb2), .val (.int pp), .val (.int vnA), .val (.int vnB), .val (.int vsf), .val (.ref bz4), .unset, .unset, .unset, .unset, .unset, .unset, .unset] [(.int ra2), (.ref bz4)]))
  obtain ⟨cq13, kqz13, qz13a, qz13b, qz13c⟩ := isOf hZ rfl Ex_10
  obtain ⟨_, _, ⟨T13, Lz13, kz13, nz13⟩, -, X13, ⟨Lc13, hQ13, lz13, yz13, zz13⟩, st13⟩ := X9.virtualBack hx (y := (⟨"com/example/locator/locator/ByteSet", "add", "(I)V"⟩ : MethodName)) (z := (⟨"com/example/locator/locator/ByteSet", "add", "(I)V"⟩ : MethodName)) hown (mvT hZ (hw _ (List.mem_of_getElem? (i := 12) rfl))) (mvT hZ (hw _ (List.mem_of_getElem? (i := 13) rfl))) (notFace_of_selects (args := #[]) (mvT hZ (hw _ (List.mem_of_getElem? (i := 15) rfl)))) (mvT hZ (hw _ (List.mem_of_getElem? (i := 15) rfl))) (mvT hZ (hw _ (List.mem_of_getElem? (i := 14) rfl))) (by decide) (backOf (W := 0) (rm2 l Z a0 hw [] bz4 ra2 d6 kd6 (own_add (fun _ => 0) ra1) T9.heap n0 (Nat.le_trans Z0 K_12.1) F_11 Aq9 g_d6 ne_bz4_d6 hra2_) hZ (hw _ (List.mem_of_getElem? (i := 16) rfl)) (hw _ (List.mem_of_getElem? (i := 2) rfl)) (by decide) (by decide)) qz13a qz13c (g := (mkF m 98 #[.val (.int p1), .val (.int p2), .val (.int p3), .val (.int p4), .val (.int p5), .val (.int p6), .val (.int ra1), .val (.int ra2), .val (.int rb1), .val (.int rb2), .val (.int pp), .val (.int vnA), .val (.int vnB), .val (.int vsf), .val (.ref bz4), .unset, .unset, .unset, .unset, .unset, .unset, .unset] [(.int ra2), (.ref bz4)])) rfl (by rw [hml]; rfl) (Steps.refl _) (argsL := [(.int ra2)]) (rest := []) (lenOf own_pd1 rfl) rfl (by show 2 * 0 + _ ≤ _; exact Nat.le_of_eq rfl) (hb hby at_98) (fun _ _ => ⟨rfl, rfl, (by decide : 2 + 0 ≤ _), (by decide : 5 + 0 ≤ _)⟩)
  dsimp only [Pt.U, Pt.locs, Pt.cells, Pt.slots] at X13 lz13 yz13 zz13 st13 hQ13
  subst lz13 yz13 zz13
  obtain ⟨rfl, Nq13, Kq13, Aq13⟩ := hQ13
  have N13 := Fr.app N9 Nq13
  have Ex_14 := Ex_10.keep Kq13
  have F_15 := F_11.keep Kq13 (ninS ne_bz4_d6 nin0)
  have K_16 : Keep h0 T13.heap [] := K_12.trans Kq13 (allS (Or.inr sz_d6) all0)
  refine OGo.tr st13 ?_
  have J111 : ∀ (Tj17 : State) (lj17 : List Loc) (hj17 : Heap) (wA : Nat → Int64), Stand p l e room_1 s m #[(.int p1), (.int p2), (.int p3), (.int p4), (.int p5), (.int p6)] below meth c Tj17 lj17 2 5 → Tj17.heap = hj17 → Fr n0 lj17 → Keep h0 hj17 [] → Exa Z hj17 bz4 "com/example/locator/locator/ByteSet" → Fld Z hj17 bz4 "com/example/locator/locator/ByteSet" "words" "[J" (.ref d6) → Arf Z hj17 d6 kd6 .long 4 (own_L wA) → own_mem wA pp = ((decide (pp = ra1) || decide (pp = ra2)) != !decide (vnA = 0)) → OGo p.tables e below (OPost s (own_Q_rm0 Z p1 p2 p3 p4 p5 p6 h0 n0) room_1.cells room_1.slots) (Tj17.setTop (mkF m 111 #[.val (.int p1), .val (.int p2), .val (.int p3), .val (.int p4), .val (.int p5), .val (.int p6), .val (.int ra1), .val (.int ra2), .val (.int rb1), .val (.int rb2), .val (.int pp), .val (.int vnA), .val (.int vnB), .val (.int vsf), .val (.ref bz4), .unset, .unset, .unset, .unset, .unset, .unset, .unset] [])) := by
    intro Tj17 lj17 hj17 wA Xj17 ej17 Nj17 Kj17 f17_0 f17_1 f17_2 hwA
    show OGo p.tables e below _ (Tj17.setTop (mkF m 111 #[.val (.int p1), .val (.int p2), .val (.int p3), .val (.int p4), .val (.int p5), .val (.int p6), .val (.int ra1), .val (.int ra2), .val (.int rb1), .val (.int rb2), .val (.int pp), .val (.int vnA), .val (.int vnB), .val (.int vsf), .val (.ref bz4), .unset, .unset, .unset, .unset, .unset, .unset, .unset] []))
    obtain ⟨T18, hz18, X18, ez18, Ez18, Az18, Dz18, -, st18⟩ := newO Xj17 hx hZ hown (hw _ (List.mem_of_getElem? (i := 0) rfl)) (hw _ (List.mem_of_getElem? (i := 1) rfl)) (hw _ (List.mem_of_getElem? (i := 2) rfl)) ej17 (g := (mkF m 111 #[.val (.int p1), .val (.int p2), .val (.int p3), .val (.int p4), .val (.int p5), .val (.int p6), .val (.int ra1), .val (.int ra2), .val (.int rb1), .val (.int rb2), .val (.int pp), .val (.int vnA), .val (.int vnB), .val (.int vsf), .val (.ref bz4), .unset, .unset, .unset, .unset, .unset, .unset, .unset] [])) rfl (hb hby at_111) (by decide) (by decide)
    obtain ⟨bz18, g18⟩ : ∃ z, z = hj17.size := ⟨_, rfl⟩
    rw [← g18] at Az18 Dz18 st18
    have lt_bz4_bz18 : bz4 < bz18 := Nat.lt_of_lt_of_le f17_0.lt (Nat.le_of_eq g18.symm)
    have lt_d6_bz18 : d6 < bz18 := Nat.lt_of_lt_of_le f17_2.lt (Nat.le_of_eq g18.symm)
    have g_bz18 : n0 ≤ bz18 := Nat.le_trans (Nat.le_trans Z0 Kj17.1) (Nat.le_of_eq g18.symm)
    have sz_bz18 : h0.size ≤ bz18 := Nat.le_trans Kj17.1 (Nat.le_of_eq g18.symm)
    have Ex_19 := f17_0.ext Ez18
    have F_20 := f17_1.ext Ez18
    have Af_21 := f17_2.ext Ez18
    have K_22 : Keep h0 hz18 [] := Kj17.ext Ez18
    have F_words_18 : Fld Z hz18 bz18 "com/example/locator/locator/ByteSet" "words" "[J" .null := Dz18 (Or.inr (hw _ (List.mem_of_getElem? (i := 11) rfl))) (ty := (.array .long)) (by decide)
    refine OGo.st st18 ?_
    show OGo p.tables e below _ (T18.setTop (mkF m 114 #[.val (.int p1), .val (.int p2), .val (.int p3), .val (.int p4), .val (.int p5), .val (.int p6), .val (.int ra1), .val (.int ra2), .val (.int rb1), .val (.int rb2), .val (.int pp), .val (.int vnA), .val (.int vnB), .val (.int vsf), .val (.ref bz4), .unset, .unset, .unset, .unset, .unset, .unset, .unset] [(.ref bz18)]))
    refine OGo.st (fun _ k_ => XS.dup X18.here hx rfl (hb hby at_114) rfl rfl k_) ?_
    show OGo p.tables e below _ (T18.setTop (mkF m 115 #[.val (.int p1), .val (.int p2), .val (.int p3), .val (.int p4), .val (.int p5), .val (.int p6), .val (.int ra1), .val (.int ra2), .val (.int rb1), .val (.int rb2), .val (.int pp), .val (.int vnA), .val (.int vnB), .val (.int vsf), .val (.ref bz4), .unset, .unset, .unset, .unset, .unset, .unset, .unset] [(.ref bz18), (.ref bz18)]))
    obtain ⟨_, _, ⟨T23, Lz23, kz23, nz23⟩, -, X23, ⟨Lc23, hQ23, lz23, yz23, zz23⟩, st23⟩ := X18.specialBack hx (y := (⟨"com/example/locator/locator/ByteSet", "<init>", "()V"⟩ : MethodName)) rfl hown (mvT hZ (hw _ (List.mem_of_getElem? (i := 3) rfl))) (mvT hZ (hw _ (List.mem_of_getElem? (i := 4) rfl))) (mvT hZ (hw _ (List.mem_of_getElem? (i := 5) rfl))) (by decide) (backOf (W := 1) (rm1 l Z a0 hw [] bz18 hz18 n0 (Nat.le_trans Z0 K_22.1) Az18 F_words_18 g_bz18) hZ (hw _ (List.mem_of_getElem? (i := 5) rfl)) (hw _ (List.mem_of_getElem? (i := 2) rfl)) (by decide) (by decide)) (g := (mkF m 115 #[.val (.int p1), .val (.int p2), .val (.int p3), .val (.int p4), .val (.int p5), .val (.int p6), .val (.int ra1), .val (.int ra2), .val (.int rb1), .val (.int rb2), .val (.int pp), .val (.int vnA), .val (.int vnB), .val (.int vsf), .val (.ref bz4), .unset, .unset, .unset, .unset, .unset, .unset, .unset] [(.ref bz18), (.ref bz18)])) rfl (by rw [hml]; rfl) (Steps.refl _) (a := bz18) (argsL := []) (rest := [(.ref bz18)]) (lenOf own_pd0 rfl) rfl (by show 2 * 0 + _ ≤ _; exact Nat.le_of_eq rfl) (hb hby at_115) (fun _ _ => ⟨rfl, ez18, (by decide : 3 + 1 ≤ _), (by decide : 6 + 4 ≤ _)⟩)
    dsimp only [Pt.U, Pt.locs, Pt.cells, Pt.slots] at X23 lz23 yz23 zz23 st23 hQ23
    subst lz23 yz23 zz23
    obtain ⟨rfl, Nq23, Kq23, d23, kd23, szd23, Fd23, Ad23⟩ := hQ23
    have N23 := Fr.app Nj17 Nq23
    have ne_bz4_d23 : bz4 ≠ d23 := Nat.ne_of_lt (Nat.lt_of_lt_of_le Ex_19.lt szd23)
    have ne_d6_d23 : d6 ≠ d23 := Nat.ne_of_lt (Nat.lt_of_lt_of_le Af_21.lt szd23)
    have ne_bz18_d23 : bz18 ≠ d23 := Nat.ne_of_lt (Nat.lt_of_lt_of_le Az18.lt szd23)
    have g_d23 : n0 ≤ d23 := Nat.le_trans (Nat.le_trans Z0 K_22.1) szd23
    have sz_d23 : h0.size ≤ d23 := Nat.le_trans K_22.1 szd23
    have Ex_24 := Ex_19.keep Kq23
    have F_25 := F_20.keep Kq23 (ninS (Nat.ne_of_lt lt_bz4_bz18) nin0)
    have Af_26 := Af_21.keep Kq23 (ninS (Nat.ne_of_lt lt_d6_bz18) nin0)
    have Ex_27 := Az18.keep Kq23
    have K_28 : Keep h0 T23.heap [] := K_22.trans Kq23 (allS (Or.inr sz_bz18) all0)
    refine OGo.tr st23 ?_
    show OGo p.tables e below _ (T23.setTop (mkF m 118 #[.val (.int p1), .val (.int p2), .val (.int p3), .val (.int p4), .val (.int p5), .val (.int p6), .val (.int ra1), .val (.int ra2), .val (.int rb1), .val (.int rb2), .val (.int pp), .val (.int vnA), .val (.int vnB), .val (.int vsf), .val (.ref bz4), .unset, .unset, .unset, .unset, .unset, .unset, .unset] [(.ref bz18)]))
    refine OGo.st (fun _ k_ => XS.astore X23.here hx rfl (hb hby at_118) rfl rfl (l' := #[.val (.int p1), .val (.int p2), .val (.int p3), .val (.int p4), .val (.int p5), .val (.int p6), .val (.int ra1), .val (.int ra2), .val (.int rb1), .val (.int rb2), .val (.int pp), .val (.int vnA), .val (.int vnB), .val (.int vsf), .val (.ref bz4), .val (.ref bz18), .unset, .unset, .unset, .unset, .unset, .unset]) rfl k_) ?_
    show OGo p.tables e below _ (T23.setTop (mkF m 120 #[.val (.int p1), .val (.int p2), .val (.int p3), .val (.int p4), .val (.int p5), .val (.int p6), .val (.int ra1), .val (.int ra2), .val (.int rb1), .val (.int rb2), .val (.int pp), .val (.int vnA), .val (.int vnB), .val (.int vsf), .val (.ref bz4), .val (.ref bz18), .unset, .unset, .unset, .unset, .unset, .unset] []))
    refine OGo.st (fun _ k_ => XS.aload X23.here hx rfl (hb hby at_120) rfl rfl k_) ?_
    show OGo p.tables e below _ (T23.setTop (mkF m 122 #[.val (.int p1), .val (.int p2), .val (.int p3), .val (.int p4), .val (.int p5), .val (.int p6), .val (.int ra1), .val (.int ra2), .val (.int rb1), .val (.int rb2), .val (.int pp), .val (.int vnA), .val (.int vnB), .val (.int vsf), .val (.ref bz4), .val (.ref bz18), .unset, .unset, .unset, .unset, .unset, .unset] [(.ref bz18)]))
    refine OGo.st (fun _ k_ => XS.iload X23.here hx rfl (hb hby at_122) rfl k_) ?_
    show OGo p.tables e below _ (T23.setTop (mkF m 124 #[.val (.int p1), .val (.int p2), .val (.int p3), .val (.int p4), .val (.int p5), .val (.int p6), .val (.int ra1), .val (.int ra2), .val (.int rb1), .val (.int rb2), .val (.int pp), .val (.int vnA), .val (.int vnB), .val (.int vsf), .val (.ref bz4), .val (.ref bz18), .unset, .unset, .unset, .unset, .unset, .unset] [(.int rb1), (.ref bz18)]))
    obtain ⟨cq29, kqz29, qz29a, qz29b, qz29c⟩ := isOf hZ rfl Ex_27
    obtain ⟨_, _, ⟨T29, Lz29, kz29, nz29⟩, -, X29, ⟨Lc29, hQ29, lz29, yz29, zz29⟩, st29⟩ := X23.virtualBack hx (y := (⟨"com/example/locator/locator/ByteSet", "add", "(I)V"⟩ : MethodName)) (z := (⟨"com/example/locator/locator/ByteSet", "add", "(I)V"⟩ : MethodName)) hown (mvT hZ (hw _ (List.mem_of_getElem? (i := 12) rfl))) (mvT hZ (hw _ (List.mem_of_getElem? (i := 13) rfl))) (notFace_of_selects (args := #[]) (mvT hZ (hw _ (List.mem_of_getElem? (i := 15) rfl)))) (mvT hZ (hw _ (List.mem_of_getElem? (i := 15) rfl))) (mvT hZ (hw _ (List.mem_of_getElem? (i := 14) rfl))) (by decide) (backOf (W := 0) (rm2 l Z a0 hw [] bz18 rb1 d23 kd23 (fun _ => 0) T23.heap n0 (Nat.le_trans Z0 K_28.1) Fd23 Ad23 g_d23 ne_bz18_d23 hrb1_) hZ (hw _ (List.mem_of_getElem? (i := 16) rfl)) (hw _ (List.mem_of_getElem? (i := 2) rfl)) (by decide) (by decide)) qz29a qz29c (g := (mkF m 124 #[.val (.int p1), .val (.int p2), .val (.int p3), .val (.int p4), .val (.int p5), .val (.int p6), .val (.int ra1), .val (.int ra2), .val (.int rb1), .val (.int rb2), .val (.int pp), .val (.int vnA), .val (.int vnB), .val (.int vsf), .val (.ref bz4), .val (.ref bz18), .unset, .unset, .unset, .unset, .unset, .unset] [(.int rb1), (.ref bz18)])) rfl (by rw [hml]; rfl) (Steps.refl _) (argsL := [(.int rb1)]) (rest := []) (lenOf own_pd1 rfl) rfl (by show 2 * 0 + _ ≤ _; exact Nat.le_of_eq rfl) (hb hby at_124) (fun _ _ => ⟨rfl, rfl, (by decide : 4 + 0 ≤ _), (by decide : 10 + 0 ≤ _)⟩)
    dsimp only [Pt.U, Pt.locs, Pt.cells, Pt.slots] at X29 lz29 yz29 zz29 st29 hQ29
    subst lz29 yz29 zz29
    obtain ⟨rfl, Nq29, Kq29, Aq29⟩ := hQ29
    have N29 := Fr.app N23 Nq29
    have Ex_30 := Ex_24.keep Kq29
    have F_31 := F_25.keep Kq29 (ninS ne_bz4_d23 nin0)
    have Af_32 := Af_26.keep Kq29 (ninS ne_d6_d23 nin0)
    have Ex_33 := Ex_27.keep Kq29
    have F_34 := Fd23.keep Kq29 (ninS ne_bz18_d23 nin0)
    have K_35 : Keep h0 T29.heap [] := K_28.trans Kq29 (allS (Or.inr sz_d23) all0)
    refine OGo.tr st29 ?_
    show OGo p.tables e below _ (T29.setTop (mkF m 127 #[.val (.int p1), .val (.int p2), .val (.int p3), .val (.int p4), .val (.int p5), .val (.int p6), .val (.int ra1), .val (.int ra2), .val (.int rb1), .val (.int rb2), .val (.int pp), .val (.int vnA), .val (.int vnB), .val (.int vsf), .val (.ref bz4), .val (.ref bz18), .unset, .unset, .unset, .unset, .unset, .unset] []))
    refine OGo.st (fun _ k_ => XS.aload X29.here hx rfl (hb hby at_127) rfl rfl k_) ?_
    show OGo p.tables e below _ (T29.setTop (mkF m 129 #[.val (.int p1), .val (.int p2), .val (.int p3), .val (.int p4), .val (.int p5), .val (.int p6), .val (.int ra1), .val (.int ra2), .val (.int rb1), .val (.int rb2), .val (.int pp), .val (.int vnA), .val (.int vnB), .val (.int vsf), .val (.ref bz4), .val (.ref bz18), .unset, .unset, .unset, .unset, .unset, .unset] [(.ref bz18)]))
    refine OGo.st (fun _ k_ => XS.iload X29.here hx rfl (hb hby at_129) rfl k_) ?_
    show OGo p.tables e below _ (T29.setTop (mkF m 131 #[.val (.int p1), .val (.int p2), .val (.int p3), .val (.int p4), .val (.int p5), .val (.int p6), .val (.int ra1), .val (.int ra2), .val (.int rb1), .val (.int rb2), .val (.int pp), .val (.int vnA), .val (.int vnB), .val (.int vsf), .val (.ref bz4), .val (.ref bz18), .unset, .unset, .unset, .unset, .unset, .unset] [(.int rb2), (.ref bz18)]))
    obtain ⟨cq36, kqz36, qz36a, qz36b, qz36c⟩ := isOf hZ rfl Ex_33
    obtain ⟨_, _, ⟨T36, Lz36, kz36, nz36⟩, -, X36, ⟨Lc36, hQ36, lz36, yz36, zz36⟩, st36⟩ := X29.virtualBack hx (y := (⟨"com/example/locator/locator/ByteSet", "add", "(I)V"⟩ : MethodName)) (z := (⟨"com/example/locator/locator/ByteSet", "add", "(I)V"⟩ : MethodName)) hown (mvT hZ (hw _ (List.mem_of_getElem? (i := 12) rfl))) (mvT hZ (hw _ (List.mem_of_getElem? (i := 13) rfl))) (notFace_of_selects (args := #[]) (mvT hZ (hw _ (List.mem_of_getElem? (i := 15) rfl)))) (mvT hZ (hw _ (List.mem_of_getElem? (i := 15) rfl))) (mvT hZ (hw _ (List.mem_of_getElem? (i := 14) rfl))) (by decide) (backOf (W := 0) (rm2 l Z a0 hw [] bz18 rb2 d23 kd23 (own_add (fun _ => 0) rb1) T29.heap n0 (Nat.le_trans Z0 K_35.1) F_34 Aq29 g_d23 ne_bz18_d23 hrb2_) hZ (hw _ (List.mem_of_getElem? (i := 16) rfl)) (hw _ (List.mem_of_getElem? (i := 2) rfl)) (by decide) (by decide)) qz36a qz36c (g := (mkF m 131 #[.val (.int p1), .val (.int p2), .val (.int p3), .val (.int p4), .val (.int p5), .val (.int p6), .val (.int ra1), .val (.int ra2), .val (.int rb1), .val (.int rb2), .val (.int pp), .val (.int vnA), .val (.int vnB), .val (.int vsf), .val (.ref bz4), .val (.ref bz18), .unset, .unset, .unset, .unset, .unset, .unset] [(.int rb2), (.ref bz18)])) rfl (by rw [hml]; rfl) (Steps.refl _) (argsL := [(.int rb2)]) (rest := []) (lenOf own_pd1 rfl) rfl (by show 2 * 0 + _ ≤ _; exact Nat.le_of_eq rfl) (hb hby at_131) (fun _ _ => ⟨rfl, rfl, (by decide : 4 + 0 ≤ _), (by decide : 10 + 0 ≤ _)⟩)
    dsimp only [Pt.U, Pt.locs, Pt.cells, Pt.slots] at X36 lz36 yz36 zz36 st36 hQ36
    subst lz36 yz36 zz36
    obtain ⟨rfl, Nq36, Kq36, Aq36⟩ := hQ36
    have N36 := Fr.app N29 Nq36
    have Ex_37 := Ex_30.keep Kq36
    have F_38 := F_31.keep Kq36 (ninS ne_bz4_d23 nin0)
    have Af_39 := Af_32.keep Kq36 (ninS ne_d6_d23 nin0)
    have Ex_40 := Ex_33.keep Kq36
    have F_41 := F_34.keep Kq36 (ninS ne_bz18_d23 nin0)
    have K_42 : Keep h0 T36.heap [] := K_35.trans Kq36 (allS (Or.inr sz_d23) all0)
    refine OGo.tr st36 ?_
    have J144 : ∀ (Tj43 : State) (lj43 : List Loc) (hj43 : Heap) (wB : Nat → Int64), Stand p l e room_1 s m #[(.int p1), (.int p2), (.int p3), (.int p4), (.int p5), (.int p6)] below meth c Tj43 lj43 4 10 → Tj43.heap = hj43 → Fr n0 lj43 → Keep h0 hj43 [] → Exa Z hj43 bz4 "com/example/locator/locator/ByteSet" → Fld Z hj43 bz4 "com/example/locator/locator/ByteSet" "words" "[J" (.ref d6) → Arf Z hj43 d6 kd6 .long 4 (own_L wA) → Exa Z hj43 bz18 "com/example/locator/locator/ByteSet" → Fld Z hj43 bz18 "com/example/locator/locator/ByteSet" "words" "[J" (.ref d23) → Arf Z hj43 d23 kd23 .long 4 (own_L wB) → own_mem wB pp = ((decide (pp = rb1) || decide (pp = rb2)) != !decide (vnB = 0)) → OGo p.tables e below (OPost s (own_Q_rm0 Z p1 p2 p3 p4 p5 p6 h0 n0) room_1.cells room_1.slots) (Tj43.setTop (mkF m 144 #[.val (.int p1), .val (.int p2), .val (.int p3), .val (.int p4), .val (.int p5), .val (.int p6), .val (.int ra1), .val (.int ra2), .val (.int rb1), .val (.int rb2), .val (.int pp), .val (.int vnA), .val (.int vnB), .val (.int vsf), .val (.ref bz4), .val (.ref bz18), .unset, .unset, .unset, .unset, .unset, .unset] [])) := by
      intro Tj43 lj43 hj43 wB Xj43 ej43 Nj43 Kj43 f43_0 f43_1 f43_2 f43_3 f43_4 f43_5 hwB
      have J166 : ∀ (Tj44 : State) (lj44 : List Loc) (hj44 : Heap) (wC : Nat → Int64), Stand p l e room_1 s m #[(.int p1), (.int p2), (.int p3), (.int p4), (.int p5), (.int p6)] below meth c Tj44 lj44 4 10 → Tj44.heap = hj44 → Fr n0 lj44 → Keep h0 hj44 [] → Exa Z hj44 bz4 "com/example/locator/locator/ByteSet" → Fld Z hj44 bz4 "com/example/locator/locator/ByteSet" "words" "[J" (.ref d6) → Arf Z hj44 d6 kd6 .long 4 (own_L wC) → Exa Z hj44 bz18 "com/example/locator/locator/ByteSet" → Fld Z hj44 bz18 "com/example/locator/locator/ByteSet" "words" "[J" (.ref d23) → Arf Z hj44 d23 kd23 .long 4 (own_L wB) → own_mem wC pp = (own_mem wA pp || (decide (vsf = 0) && own_mem wB pp)) → OGo p.tables e below (OPost s (own_Q_rm0 Z p1 p2 p3 p4 p5 p6 h0 n0) room_1.cells room_1.slots) (Tj44.setTop (mkF m 166 #[.val (.int p1), .val (.int p2), .val (.int p3), .val (.int p4), .val (.int p5), .val (.int p6), .val (.int ra1), .val (.int ra2), .val (.int rb1), .val (.int rb2), .val (.int pp), .val (.int vnA), .val (.int vnB), .val (.int vsf), .val (.ref bz4), .val (.ref bz18), .unset, .unset, .unset, .unset, .unset, .unset] [])) := by
        intro Tj44 lj44 hj44 wC Xj44 ej44 Nj44 Kj44 f44_0 f44_1 f44_2 f44_3 f44_4 f44_5 hwC
        show OGo p.tables e below _ (Tj44.setTop (mkF m 166 #[.val (.int p1), .val (.int p2), .val (.int p3), .val (.int p4), .val (.int p5), .val (.int p6), .val (.int ra1), .val (.int ra2), .val (.int rb1), .val (.int rb2), .val (.int pp), .val (.int vnA), .val (.int vnB), .val (.int vsf), .val (.ref bz4), .val (.ref bz18), .unset, .unset, .unset, .unset, .unset, .unset] []))
        refine OGo.st (fun _ k_ => XS.bipush Xj44.here hx rfl (hb hby at_166) k_) ?_
        show OGo p.tables e below _ (Tj44.setTop (mkF m 168 #[.val (.int p1), .val (.int p2), .val (.int p3), .val (.int p4), .val (.int p5), .val (.int p6), .val (.int ra1), .val (.int ra2), .val (.int rb1), .val (.int rb2), .val (.int pp), .val (.int vnA), .val (.int vnB), .val (.int vsf), .val (.ref bz4), .val (.ref bz18), .unset, .unset, .unset, .unset, .unset, .unset] [(.int (8 : Int32))]))
        obtain ⟨T45, hz45, kz45, X45, ez45, Ez45, Az45, st45⟩ := newP Xj44 hx hZ (hw _ (List.mem_of_getElem? (i := 9) rfl)) ej44 (g := (mkF m 168 #[.val (.int p1), .val (.int p2), .val (.int p3), .val (.int p4), .val (.int p5), .val (.int p6), .val (.int ra1), .val (.int ra2), .val (.int rb1), .val (.int rb2), .val (.int pp), .val (.int vnA), .val (.int vnB), .val (.int vsf), .val (.ref bz4), .val (.ref bz18), .unset, .unset, .unset, .unset, .unset, .unset] [(.int (8 : Int32))])) rfl (hb hby at_168) rfl (by decide) (cap := 8) (by decide) (by decide) (by decide) (by decide)
        obtain ⟨bz45, g45⟩ : ∃ z, z = hj44.size := ⟨_, rfl⟩
        rw [← g45] at Az45 st45
        have lt_bz4_bz45 : bz4 < bz45 := Nat.lt_of_lt_of_le f44_0.lt (Nat.le_of_eq g45.symm)
        have lt_d6_bz45 : d6 < bz45 := Nat.lt_of_lt_of_le f44_2.lt (Nat.le_of_eq g45.symm)
        have lt_bz18_bz45 : bz18 < bz45 := Nat.lt_of_lt_of_le f44_3.lt (Nat.le_of_eq g45.symm)
        have lt_d23_bz45 : d23 < bz45 := Nat.lt_of_lt_of_le f44_5.lt (Nat.le_of_eq g45.symm)
        have g_bz45 : n0 ≤ bz45 := Nat.le_trans (Nat.le_trans Z0 Kj44.1) (Nat.le_of_eq g45.symm)
        have sz_bz45 : h0.size ≤ bz45 := Nat.le_trans Kj44.1 (Nat.le_of_eq g45.symm)
        have Ex_46 := f44_0.ext Ez45
        have F_47 := f44_1.ext Ez45
        have Af_48 := f44_2.ext Ez45
        have Ex_49 := f44_3.ext Ez45
        have F_50 := f44_4.ext Ez45
        have Af_51 := f44_5.ext Ez45
        have K_52 : Keep h0 hz45 [] := Kj44.ext Ez45
        have V_bz45 : Arf Z hz45 bz45 kz45 .long (8 : Int32) (fun _ => (.long (0 : Int64))) := own_new Az45 (by decide)
        refine OGo.st st45 ?_
        show OGo p.tables e below _ (T45.setTop (mkF m 170 #[.val (.int p1), .val (.int p2), .val (.int p3), .val (.int p4), .val (.int p5), .val (.int p6), .val (.int ra1), .val (.int ra2), .val (.int rb1), .val (.int rb2), .val (.int pp), .val (.int vnA), .val (.int vnB), .val (.int vsf), .val (.ref bz4), .val (.ref bz18), .unset, .unset, .unset, .unset, .unset, .unset] [(.ref bz45)]))
        refine OGo.st (fun _ k_ => XS.astore X45.here hx rfl (hb hby at_170) rfl rfl (l' := #[.val (.int p1), .val (.int p2), .val (.int p3), .val (.int p4), .val (.int p5), .val (.int p6), .val (.int ra1), .val (.int ra2), .val (.int rb1), .val (.int rb2), .val (.int pp), .val (.int vnA), .val (.int vnB), .val (.int vsf), .val (.ref bz4), .val (.ref bz18), .val (.ref bz45), .unset, .unset, .unset, .unset, .unset]) rfl k_) ?_
        show OGo p.tables e below _ (T45.setTop (mkF m 172 #[.val (.int p1), .val (.int p2), .val (.int p3), .val (.int p4), .val (.int p5), .val (.int p6), .val (.int ra1), .val (.int ra2), .val (.int rb1), .val (.int rb2), .val (.int pp), .val (.int vnA), .val (.int vnB), .val (.int vsf), .val (.ref bz4), .val (.ref bz18), .val (.ref bz45), .unset, .unset, .unset, .unset, .unset] []))
        refine OGo.st (fun _ k_ => XS.aload X45.here hx rfl (hb hby at_172) rfl rfl k_) ?_
        show OGo p.tables e below _ (T45.setTop (mkF m 174 #[.val (.int p1), .val (.int p2), .val (.int p3), .val (.int p4), .val (.int p5), .val (.int p6), .val (.int ra1), .val (.int ra2), .val (.int rb1), .val (.int rb2), .val (.int pp), .val (.int vnA), .val (.int vnB), .val (.int vsf), .val (.ref bz4), .val (.ref bz18), .val (.ref bz45), .unset, .unset, .unset, .unset, .unset] [(.ref bz4)]))
        refine OGo.st (fun _ k_ => XS.aload X45.here hx rfl (hb hby at_174) rfl rfl k_) ?_
        show OGo p.tables e below _ (T45.setTop (mkF m 176 #[.val (.int p1), .val (.int p2), .val (.int p3), .val (.int p4), .val (.int p5), .val (.int p6), .val (.int ra1), .val (.int ra2), .val (.int rb1), .val (.int rb2), .val (.int pp), .val (.int vnA), .val (.int vnB), .val (.int vsf), .val (.ref bz4), .val (.ref bz18), .val (.ref bz45), .unset, .unset, .unset, .unset, .unset] [(.ref bz45), (.ref bz4)]))
        refine OGo.st (fun _ k_ => XS.iconst X45.here hx rfl (hb hby at_176) k_) ?_
        show OGo p.tables e below _ (T45.setTop (mkF m 177 #[.val (.int p1), .val (.int p2), .val (.int p3), .val (.int p4), .val (.int p5), .val (.int p6), .val (.int ra1), .val (.int ra2), .val (.int rb1), .val (.int rb2), .val (.int pp), .val (.int vnA), .val (.int vnB), .val (.int vsf), .val (.ref bz4), .val (.ref bz18), .val (.ref bz45), .unset, .unset, .unset, .unset, .unset] [(.int (0 : Int32)), (.ref bz45), (.ref bz4)]))
        obtain ⟨cq53, kqz53, qz53a, qz53b, qz53c⟩ := isOf hZ ez45 Ex_46
        obtain ⟨_, _, ⟨T53, Lz53, kz53, nz53⟩, -, X53, ⟨Lc53, hQ53, lz53, yz53, zz53⟩, st53⟩ := X45.virtualBack hx (y := (⟨"com/example/locator/locator/ByteSet", "copyTo", "([JI)V"⟩ : MethodName)) (z := (⟨"com/example/locator/locator/ByteSet", "copyTo", "([JI)V"⟩ : MethodName)) hown (mvT hZ (hw _ (List.mem_of_getElem? (i := 28) rfl))) (mvT hZ (hw _ (List.mem_of_getElem? (i := 29) rfl))) (notFace_of_selects (args := #[]) (mvT hZ (hw _ (List.mem_of_getElem? (i := 31) rfl)))) (mvT hZ (hw _ (List.mem_of_getElem? (i := 31) rfl))) (mvT hZ (hw _ (List.mem_of_getElem? (i := 30) rfl))) (by decide) (backOf (W := 0) (rm6 l Z a0 hw [] bz4 bz45 (0 : Int32) d6 kd6 wC kz45 (fun _ => (.long (0 : Int64))) hz45 n0 (Nat.le_trans Z0 K_52.1) F_47 Af_48 V_bz45 g_bz45 (Nat.ne_of_lt lt_bz4_bz45) (Nat.ne_of_lt lt_d6_bz45) (by decide)) hZ (hw _ (List.mem_of_getElem? (i := 32) rfl)) (hw _ (List.mem_of_getElem? (i := 2) rfl)) (by decide) (by decide)) qz53a qz53c (g := (mkF m 177 #[.val (.int p1), .val (.int p2), .val (.int p3), .val (.int p4), .val (.int p5), .val (.int p6), .val (.int ra1), .val (.int ra2), .val (.int rb1), .val (.int rb2), .val (.int pp), .val (.int vnA), .val (.int vnB), .val (.int vsf), .val (.ref bz4), .val (.ref bz18), .val (.ref bz45), .unset, .unset, .unset, .unset, .unset] [(.int (0 : Int32)), (.ref bz45), (.ref bz4)])) rfl (by rw [hml]; rfl) (Steps.refl _) (argsL := [(.ref bz45), (.int (0 : Int32))]) (rest := []) (lenOf own_pd2 rfl) rfl (by show 2 * 0 + _ ≤ _; exact Nat.le_of_eq rfl) (hb hby at_177) (fun _ _ => ⟨rfl, ez45, (by decide : 5 + 0 ≤ _), (by decide : 18 + 0 ≤ _)⟩)
        dsimp only [Pt.U, Pt.locs, Pt.cells, Pt.slots] at X53 lz53 yz53 zz53 st53 hQ53
        subst lz53 yz53 zz53
        obtain ⟨rfl, Nq53, Kq53, Aq53⟩ := hQ53
        have N53 := Fr.app Nj44 Nq53
        have Ex_54 := Ex_46.keep Kq53
        have F_55 := F_47.keep Kq53 (ninS (Nat.ne_of_lt lt_bz4_bz45) nin0)
        have Af_56 := Af_48.keep Kq53 (ninS (Nat.ne_of_lt lt_d6_bz45) nin0)
        have Ex_57 := Ex_49.keep Kq53
        have F_58 := F_50.keep Kq53 (ninS (Nat.ne_of_lt lt_bz18_bz45) nin0)
        have Af_59 := Af_51.keep Kq53 (ninS (Nat.ne_of_lt lt_d23_bz45) nin0)
        have K_60 : Keep h0 T53.heap [] := K_52.trans Kq53 (allS (Or.inr sz_bz45) all0)
        refine OGo.tr st53 ?_
        show OGo p.tables e below _ (T53.setTop (mkF m 180 #[.val (.int p1), .val (.int p2), .val (.int p3), .val (.int p4), .val (.int p5), .val (.int p6), .val (.int ra1), .val (.int ra2), .val (.int rb1), .val (.int rb2), .val (.int pp), .val (.int vnA), .val (.int vnB), .val (.int vsf), .val (.ref bz4), .val (.ref bz18), .val (.ref bz45), .unset, .unset, .unset, .unset, .unset] []))
        refine OGo.st (fun _ k_ => XS.aload X53.here hx rfl (hb hby at_180) rfl rfl k_) ?_
        show OGo p.tables e below _ (T53.setTop (mkF m 182 #[.val (.int p1), .val (.int p2), .val (.int p3), .val (.int p4), .val (.int p5), .val (.int p6), .val (.int ra1), .val (.int ra2), .val (.int rb1), .val (.int rb2), .val (.int pp), .val (.int vnA), .val (.int vnB), .val (.int vsf), .val (.ref bz4), .val (.ref bz18), .val (.ref bz45), .unset, .unset, .unset, .unset, .unset] [(.ref bz18)]))
        refine OGo.st (fun _ k_ => XS.aload X53.here hx rfl (hb hby at_182) rfl rfl k_) ?_
        show OGo p.tables e below _ (T53.setTop (mkF m 184 #[.val (.int p1), .val (.int p2), .val (.int p3), .val (.int p4), .val (.int p5), .val (.int p6), .val (.int ra1), .val (.int ra2), .val (.int rb1), .val (.int rb2), .val (.int pp), .val (.int vnA), .val (.int vnB), .val (.int vsf), .val (.ref bz4), .val (.ref bz18), .val (.ref bz45), .unset, .unset, .unset, .unset, .unset] [(.ref bz45), (.ref bz18)]))
        refine OGo.st (fun _ k_ => XS.iconst X53.here hx rfl (hb hby at_184) k_) ?_
        show OGo p.tables e below _ (T53.setTop (mkF m 185 #[.val (.int p1), .val (.int p2), .val (.int p3), .val (.int p4), .val (.int p5), .val (.int p6), .val (.int ra1), .val (.int ra2), .val (.int rb1), .val (.int rb2), .val (.int pp), .val (.int vnA), .val (.int vnB), .val (.int vsf), .val (.ref bz4), .val (.ref bz18), .val (.ref bz45), .unset, .unset, .unset, .unset, .unset] [(.int (4 : Int32)), (.ref bz45), (.ref bz18)]))
        obtain ⟨cq61, kqz61, qz61a, qz61b, qz61c⟩ := isOf hZ rfl Ex_57
        obtain ⟨_, _, ⟨T61, Lz61, kz61, nz61⟩, -, X61, ⟨Lc61, hQ61, lz61, yz61, zz61⟩, st61⟩ := X53.virtualBack hx (y := (⟨"com/example/locator/locator/ByteSet", "copyTo", "([JI)V"⟩ : MethodName)) (z := (⟨"com/example/locator/locator/ByteSet", "copyTo", "([JI)V"⟩ : MethodName)) hown (mvT hZ (hw _ (List.mem_of_getElem? (i := 28) rfl))) (mvT hZ (hw _ (List.mem_of_getElem? (i := 29) rfl))) (notFace_of_selects (args := #[]) (mvT hZ (hw _ (List.mem_of_getElem? (i := 31) rfl)))) (mvT hZ (hw _ (List.mem_of_getElem? (i := 31) rfl))) (mvT hZ (hw _ (List.mem_of_getElem? (i := 30) rfl))) (by decide) (backOf (W := 0) (rm6 l Z a0 hw [] bz18 bz45 (4 : Int32) d23 kd23 wB kz45 (own_cp wC (0 : Int32) (fun _ => (.long (0 : Int64)))) T53.heap n0 (Nat.le_trans Z0 K_60.1) F_58 Af_59 Aq53 g_bz45 (Nat.ne_of_lt lt_bz18_bz45) (Nat.ne_of_lt lt_d23_bz45) (by decide)) hZ (hw _ (List.mem_of_getElem? (i := 32) rfl)) (hw _ (List.mem_of_getElem? (i := 2) rfl)) (by decide) (by decide)) qz61a qz61c (g := (mkF m 185 #[.val (.int p1), .val (.int p2), .val (.int p3), .val (.int p4), .val (.int p5), .val (.int p6), .val (.int ra1), .val (.int ra2), .val (.int rb1), .val (.int rb2), .val (.int pp), .val (.int vnA), .val (.int vnB), .val (.int vsf), .val (.ref bz4), .val (.ref bz18), .val (.ref bz45), .unset, .unset, .unset, .unset, .unset] [(.int (4 : Int32)), (.ref bz45), (.ref bz18)])) rfl (by rw [hml]; rfl) (Steps.refl _) (argsL := [(.ref bz45), (.int (4 : Int32))]) (rest := []) (lenOf own_pd2 rfl) rfl (by show 2 * 0 + _ ≤ _; exact Nat.le_of_eq rfl) (hb hby at_185) (fun _ _ => ⟨rfl, rfl, (by decide : 5 + 0 ≤ _), (by decide : 18 + 0 ≤ _)⟩)
        dsimp only [Pt.U, Pt.locs, Pt.cells, Pt.slots] at X61 lz61 yz61 zz61 st61 hQ61
        subst lz61 yz61 zz61
        obtain ⟨rfl, Nq61, Kq61, Aq61⟩ := hQ61
        have N61 := Fr.app N53 Nq61
        have Ex_62 := Ex_54.keep Kq61
        have F_63 := F_55.keep Kq61 (ninS (Nat.ne_of_lt lt_bz4_bz45) nin0)
        have Af_64 := Af_56.keep Kq61 (ninS (Nat.ne_of_lt lt_d6_bz45) nin0)
        have Ex_65 := Ex_57.keep Kq61
        have F_66 := F_58.keep Kq61 (ninS (Nat.ne_of_lt lt_bz18_bz45) nin0)
        have Af_67 := Af_59.keep Kq61 (ninS (Nat.ne_of_lt lt_d23_bz45) nin0)
        have K_68 : Keep h0 T61.heap [] := K_60.trans Kq61 (allS (Or.inr sz_bz45) all0)
        refine OGo.tr st61 ?_
        have Af_69 : Arf Z T61.heap bz45 kz45 .long (8 : Int32) (own_out wC wB) := Aq61.congr (fun i hi => own_cp2 wC wB i hi)
        obtain ⟨t1, hvz70, st70⟩ : ∃ t1 : Int32, t1 = (if pp = ra1 then (1 : Int32) else (if pp = ra2 then (1 : Int32) else (0 : Int32))) ∧ ∀ t, Steps p.tables e below (T61.setTop (mkF m 207 #[.val (.int p1), .val (.int p2), .val (.int p3), .val (.int p4), .val (.int p5), .val (.int p6), .val (.int ra1), .val (.int ra2), .val (.int rb1), .val (.int rb2), .val (.int pp), .val (.int vnA), .val (.int vnB), .val (.int vsf), .val (.ref bz4), .val (.ref bz18), .val (.ref bz45), .unset, .unset, .unset, .unset, .unset] [(.int t1)])) t → Steps p.tables e below (T61.setTop (mkF m 188 #[.val (.int p1), .val (.int p2), .val (.int p3), .val (.int p4), .val (.int p5), .val (.int p6), .val (.int ra1), .val (.int ra2), .val (.int rb1), .val (.int rb2), .val (.int pp), .val (.int vnA), .val (.int vnB), .val (.int vsf), .val (.ref bz4), .val (.ref bz18), .val (.ref bz45), .unset, .unset, .unset, .unset, .unset] [])) t := by
          refine ⟨_, rfl, fun t k => ?_⟩
          show Steps p.tables e below (T61.setTop (mkF m 188 #[.val (.int p1), .val (.int p2), .val (.int p3), .val (.int p4), .val (.int p5), .val (.int p6), .val (.int ra1), .val (.int ra2), .val (.int rb1), .val (.int rb2), .val (.int pp), .val (.int vnA), .val (.int vnB), .val (.int vsf), .val (.ref bz4), .val (.ref bz18), .val (.ref bz45), .unset, .unset, .unset, .unset, .unset] [])) _
          refine XS.iload X61.here hx rfl (hb hby at_188) rfl ?_
          show Steps p.tables e below (T61.setTop (mkF m 190 #[.val (.int p1), .val (.int p2), .val (.int p3), .val (.int p4), .val (.int p5), .val (.int p6), .val (.int ra1), .val (.int ra2), .val (.int rb1), .val (.int rb2), .val (.int pp), .val (.int vnA), .val (.int vnB), .val (.int vsf), .val (.ref bz4), .val (.ref bz18), .val (.ref bz45), .unset, .unset, .unset, .unset, .unset] [(.int pp)])) _
          refine XS.iload X61.here hx rfl (hb hby at_190) rfl ?_
          show Steps p.tables e below (T61.setTop (mkF m 192 #[.val (.int p1), .val (.int p2), .val (.int p3), .val (.int p4), .val (.int p5), .val (.int p6), .val (.int ra1), .val (.int ra2), .val (.int rb1), .val (.int rb2), .val (.int pp), .val (.int vnA), .val (.int vnB), .val (.int vsf), .val (.ref bz4), .val (.ref bz18), .val (.ref bz45), .unset, .unset, .unset, .unset, .unset] [(.int ra1), (.int pp)])) _
          by_cases hs192 : pp = ra1
          · rw [if_pos hs192] at k
            refine XS.icmpYes X61.here hx rfl (pc0 := 192) (pc' := 202) rfl (hb hby at_192) rfl (XT.ii_eq_t hs192) (by decide) (by decide) ?_
            show Steps p.tables e below (T61.setTop (mkF m 202 #[.val (.int p1), .val (.int p2), .val (.int p3), .val (.int p4), .val (.int p5), .val (.int p6), .val (.int ra1), .val (.int ra2), .val (.int rb1), .val (.int rb2), .val (.int pp), .val (.int vnA), .val (.int vnB), .val (.int vsf), .val (.ref bz4), .val (.ref bz18), .val (.ref bz45), .unset, .unset, .unset, .unset, .unset] [])) _
            refine XS.iconst X61.here hx rfl (hb hby at_202) ?_
            show Steps p.tables e below (T61.setTop (mkF m 203 #[.val (.int p1), .val (.int p2), .val (.int p3), .val (.int p4), .val (.int p5), .val (.int p6), .val (.int ra1), .val (.int ra2), .val (.int rb1), .val (.int rb2), .val (.int pp), .val (.int vnA), .val (.int vnB), .val (.int vsf), .val (.ref bz4), .val (.ref bz18), .val (.ref bz45), .unset, .unset, .unset, .unset, .unset] [(.int (1 : Int32))])) _
            refine XS.goto X61.here hx rfl (pc0 := 203) (pc' := 207) rfl (hb hby at_203) (by decide) (by decide) ?_
            exact k
          · rw [if_neg hs192] at k
            refine XS.icmpNo X61.here hx rfl (hb hby at_192) rfl (XT.ii_eq_f hs192) ?_
            show Steps p.tables e below (T61.setTop (mkF m 195 #[.val (.int p1), .val (.int p2), .val (.int p3), .val (.int p4), .val (.int p5), .val (.int p6), .val (.int ra1), .val (.int ra2), .val (.int rb1), .val (.int rb2), .val (.int pp), .val (.int vnA), .val (.int vnB), .val (.int vsf), .val (.ref bz4), .val (.ref bz18), .val (.ref bz45), .unset, .unset, .unset, .unset, .unset] [])) _
            refine XS.iload X61.here hx rfl (hb hby at_195) rfl ?_
            show Steps p.tables e below (T61.setTop (mkF m 197 #[.val (.int p1), .val (.int p2), .val (.int p3), .val (.int p4), .val (.int p5), .val (.int p6), .val (.int ra1), .val (.int ra2), .val (.int rb1), .val (.int rb2), .val (.int pp), .val (.int vnA), .val (.int vnB), .val (.int vsf), .val (.ref bz4), .val (.ref bz18), .val (.ref bz45), .unset, .unset, .unset, .unset, .unset] [(.int pp)])) _
            refine XS.iload X61.here hx rfl (hb hby at_197) rfl ?_
            show Steps p.tables e below (T61.setTop (mkF m 199 #[.val (.int p1), .val (.int p2), .val (.int p3), .val (.int p4), .val (.int p5), .val (.int p6), .val (.int ra1), .val (.int ra2), .val (.int rb1), .val (.int rb2), .val (.int pp), .val (.int vnA), .val (.int vnB), .val (.int vsf), .val (.ref bz4), .val (.ref bz18), .val (.ref bz45), .unset, .unset, .unset, .unset, .unset] [(.int ra2), (.int pp)])) _
            by_cases hs199 : pp = ra2
            · rw [if_pos hs199] at k
              refine XS.icmpNo X61.here hx rfl (hb hby at_199) rfl (XT.ii_ne_f hs199) ?_
              show Steps p.tables e below (T61.setTop (mkF m 202 #[.val (.int p1), .val (.int p2), .val (.int p3), .val (.int p4), .val (.int p5), .val (.int p6), .val (.int ra1), .val (.int ra2), .val (.int rb1), .val (.int rb2), .val (.int pp), .val (.int vnA), .val (.int vnB), .val (.int vsf), .val (.ref bz4), .val (.ref bz18), .val (.ref bz45), .unset, .unset, .unset, .unset, .unset] [])) _
              refine XS.iconst X61.here hx rfl (hb hby at_202) ?_
              show Steps p.tables e below (T61.setTop (mkF m 203 #[.val (.int p1), .val (.int p2), .val (.int p3), .val (.int p4), .val (.int p5), .val (.int p6), .val (.int ra1), .val (.int ra2), .val (.int rb1), .val (.int rb2), .val (.int pp), .val (.int vnA), .val (.int vnB), .val (.int vsf), .val (.ref bz4), .val (.ref bz18), .val (.ref bz45), .unset, .unset, .unset, .unset, .unset] [(.int (1 : Int32))])) _
              refine XS.goto X61.here hx rfl (pc0 := 203) (pc' := 207) rfl (hb hby at_203) (by decide) (by decide) ?_
              exact k
            · rw [if_neg hs199] at k
              refine XS.icmpYes X61.here hx rfl (pc0 := 199) (pc' := 206) rfl (hb hby at_199) rfl (XT.ii_ne_t hs199) (by decide) (by decide) ?_
              show Steps p.tables e below (T61.setTop (mkF m 206 #[.val (.int p1), .val (.int p2), .val (.int p3), .val (.int p4), .val (.int p5), .val (.int p6), .val (.int ra1), .val (.int ra2), .val (.int rb1), .val (.int rb2), .val (.int pp), .val (.int vnA), .val (.int vnB), .val (.int vsf), .val (.ref bz4), .val (.ref bz18), .val (.ref bz45), .unset, .unset, .unset, .unset, .unset] [])) _
              refine XS.iconst X61.here hx rfl (hb hby at_206) ?_
              exact k
        refine OGo.st st70 ?_
        obtain ⟨v17, hvz71, st71⟩ : ∃ v17 : Int32, v17 = (if t1 = vnA then (0 : Int32) else (1 : Int32)) ∧ ∀ t, Steps p.tables e below (T61.setTop (mkF m 217 #[.val (.int p1), .val (.int p2), .val (.int p3), .val (.int p4), .val (.int p5), .val (.int p6), .val (.int ra1), .val (.int ra2), .val (.int rb1), .val (.int rb2), .val (.int pp), .val (.int vnA), .val (.int vnB), .val (.int vsf), .val (.ref bz4), .val (.ref bz18), .val (.ref bz45), .unset, .unset, .unset, .unset, .unset] [(.int v17)])) t → Steps p.tables e below (T61.setTop (mkF m 207 #[.val (.int p1), .val (.int p2), .val (.int p3), .val (.int p4), .val (.int p5), .val (.int p6), .val (.int ra1), .val (.int ra2), .val (.int rb1), .val (.int rb2), .val (.int pp), .val (.int vnA), .val (.int vnB), .val (.int vsf), .val (.ref bz4), .val (.ref bz18), .val (.ref bz45), .unset, .unset, .unset, .unset, .unset] [(.int t1)])) t := by
          refine ⟨_, rfl, fun t k => ?_⟩
          show Steps p.tables e below (T61.setTop (mkF m 207 #[.val (.int p1), .val (.int p2), .val (.int p3), .val (.int p4), .val (.int p5), .val (.int p6), .val (.int ra1), .val (.int ra2), .val (.int rb1), .val (.int rb2), .val (.int pp), .val (.int vnA), .val (.int vnB), .val (.int vsf), .val (.ref bz4), .val (.ref bz18), .val (.ref bz45), .unset, .unset, .unset, .unset, .unset] [(.int t1)])) _
          refine XS.iload X61.here hx rfl (hb hby at_207) rfl ?_
          show Steps p.tables e below (T61.setTop (mkF m 209 #[.val (.int p1), .val (.int p2), .val (.int p3), .val (.int p4), .val (.int p5), .val (.int p6), .val (.int ra1), .val (.int ra2), .val (.int rb1), .val (.int rb2), .val (.int pp), .val (.int vnA), .val (.int vnB), .val (.int vsf), .val (.ref bz4), .val (.ref bz18), .val (.ref bz45), .unset, .unset, .unset, .unset, .unset] [(.int vnA), (.int t1)])) _
          by_cases hs209 : t1 = vnA
          · rw [if_pos hs209] at k
            refine XS.icmpYes X61.here hx rfl (pc0 := 209) (pc' := 216) rfl (hb hby at_209) rfl (XT.ii_eq_t hs209) (by decide) (by decide) ?_
            show Steps p.tables e below (T61.setTop (mkF m 216 #[.val (.int p1), .val (.int p2), .val (.int p3), .val (.int p4), .val (.int p5), .val (.int p6), .val (.int ra1), .val (.int ra2), .val (.int rb1), .val (.int rb2), .val (.int pp), .val (.int vnA), .val (.int vnB), .val (.int vsf), .val (.ref bz4), .val (.ref bz18), .val (.ref bz45), .unset, .unset, .unset, .unset, .unset] [])) _
            refine XS.iconst X61.here hx rfl (hb hby at_216) ?_
            exact k
          · rw [if_neg hs209] at k
            refine XS.icmpNo X61.here hx rfl (hb hby at_209) rfl (XT.ii_eq_f hs209) ?_
            show Steps p.tables e below (T61.setTop (mkF m 212 #[.val (.int p1), .val (.int p2), .val (.int p3), .val (.int p4), .val (.int p5), .val (.int p6), .val (.int ra1), .val (.int ra2), .val (.int rb1), .val (.int rb2), .val (.int pp), .val (.int vnA), .val (.int vnB), .val (.int vsf), .val (.ref bz4), .val (.ref bz18), .val (.ref bz45), .unset, .unset, .unset, .unset, .unset] [])) _
            refine XS.iconst X61.here hx rfl (hb hby at_212) ?_
            show Steps p.tables e below (T61.setTop (mkF m 213 #[.val (.int p1), .val (.int p2), .val (.int p3), .val (.int p4), .val (.int p5), .val (.int p6), .val (.int ra1), .val (.int ra2), .val (.int rb1), .val (.int rb2), .val (.int pp), .val (.int vnA), .val (.int vnB), .val (.int vsf), .val (.ref bz4), .val (.ref bz18), .val (.ref bz45), .unset, .unset, .unset, .unset, .unset] [(.int (1 : Int32))])) _
            refine XS.goto X61.here hx rfl (pc0 := 213) (pc' := 217) rfl (hb hby at_213) (by decide) (by decide) ?_
            exact k
        refine OGo.st st71 ?_
        show OGo p.tables e below _ (T61.setTop (mkF m 217 #[.val (.int p1), .val (.int p2), .val (.int p3), .val (.int p4), .val (.int p5), .val (.int p6), .val (.int ra1), .val (.int ra2), .val (.int rb1), .val (.int rb2), .val (.int pp), .val (.int vnA), .val (.int vnB), .val (.int vsf), .val (.ref bz4), .val (.ref bz18), .val (.ref bz45), .unset, .unset, .unset, .unset, .unset] [(.int v17)]))
        refine OGo.st (fun _ k_ => XS.istore X61.here hx rfl (hb hby at_217) rfl (l' := #[.val (.int p1), .val (.int p2), .val (.int p3), .val (.int p4), .val (.int p5), .val (.int p6), .val (.int ra1), .val (.int ra2), .val (.int rb1), .val (.int rb2), .val (.int pp), .val (.int vnA), .val (.int vnB), .val (.int vsf), .val (.ref bz4), .val (.ref bz18), .val (.ref bz45), .val (.int v17), .unset, .unset, .unset, .unset]) rfl k_) ?_
        obtain ⟨t2, hvz72, st72⟩ : ∃ t2 : Int32, t2 = (if pp = rb1 then (1 : Int32) else (if pp = rb2 then (1 : Int32) else (0 : Int32))) ∧ ∀ t, Steps p.tables e below (T61.setTop (mkF m 238 #[.val (.int p1), .val (.int p2), .val (.int p3), .val (.int p4), .val (.int p5), .val (.int p6), .val (.int ra1), .val (.int ra2), .val (.int rb1), .val (.int rb2), .val (.int pp), .val (.int vnA), .val (.int vnB), .val (.int vsf), .val (.ref bz4), .val (.ref bz18), .val (.ref bz45), .val (.int v17), .unset, .unset, .unset, .unset] [(.int t2)])) t → Steps p.tables e below (T61.setTop (mkF m 219 #[.val (.int p1), .val (.int p2), .val (.int p3), .val (.int p4), .val (.int p5), .val (.int p6), .val (.int ra1), .val (.int ra2), .val (.int rb1), .val (.int rb2), .val (.int pp), .val (.int vnA), .val (.int vnB), .val (.int vsf), .val (.ref bz4), .val (.ref bz18), .val (.ref bz45), .val (.int v17), .unset, .unset, .unset, .unset] [])) t := by
          refine ⟨_, rfl, fun t k => ?_⟩
          show Steps p.tables e below (T61.setTop (mkF m 219 #[.val (.int p1), .val (.int p2), .val (.int p3), .val (.int p4), .val (.int p5), .val (.int p6), .val (.int ra1), .val (.int ra2), .val (.int rb1), .val (.int rb2), .val (.int pp), .val (.int vnA), .val (.int vnB), .val (.int vsf), .val (.ref bz4), .val (.ref bz18), .val (.ref bz45), .val (.int v17), .unset, .unset, .unset, .unset] [])) _
          refine XS.iload X61.here hx rfl (hb hby at_219) rfl ?_
          show Steps p.tables e below (T61.setTop (mkF m 221 #[.val (.int p1), .val (.int p2), .val (.int p3), .val (.int p4), .val (.int p5), .val (.int p6), .val (.int ra1), .val (.int ra2), .val (.int rb1), .val (.int rb2), .val (.int pp), .val (.int vnA), .val (.int vnB), .val (.int vsf), .val (.ref bz4), .val (.ref bz18), .val (.ref bz45), .val (.int v17), .unset, .unset, .unset, .unset] [(.int pp)])) _
          refine XS.iload X61.here hx rfl (hb hby at_221) rfl ?_
          show Steps p.tables e below (T61.setTop (mkF m 223 #[.val (.int p1), .val (.int p2), .val (.int p3), .val (.int p4), .val (.int p5), .val (.int p6), .val (.int ra1), .val (.int ra2), .val (.int rb1), .val (.int rb2), .val (.int pp), .val (.int vnA), .val (.int vnB), .val (.int vsf), .val (.ref bz4), .val (.ref bz18), .val (.ref bz45), .val (.int v17), .unset, .unset, .unset, .unset] [(.int rb1), (.int pp)])) _
          by_cases hs223 : pp = rb1
          · rw [if_pos hs223] at k
            refine XS.icmpYes X61.here hx rfl (pc0 := 223) (pc' := 233) rfl (hb hby at_223) rfl (XT.ii_eq_t hs223) (by decide) (by decide) ?_
            show Steps p.tables e below (T61.setTop (mkF m 233 #[.val (.int p1), .val (.int p2), .val (.int p3), .val (.int p4), .val (.int p5), .val (.int p6), .val (.int ra1), .val (.int ra2), .val (.int rb1), .val (.int rb2), .val (.int pp), .val (.int vnA), .val (.int vnB), .val (.int vsf), .val (.ref bz4), .val (.ref bz18), .val (.ref bz45), .val (.int v17), .unset, .unset, .unset, .unset] [])) _
            refine XS.iconst X61.here hx rfl (hb hby at_233) ?_
            show Steps p.tables e below (T61.setTop (mkF m 234 #[.val (.int p1), .val (.int p2), .val (.int p3), .val (.int p4), .val (.int p5), .val (.int p6), .val (.int ra1), .val (.int ra2), .val (.int rb1), .val (.int rb2), .val (.int pp), .val (.int vnA), .val (.int vnB), .val (.int vsf), .val (.ref bz4), .val (.ref bz18), .val (.ref bz45), .val (.int v17), .unset, .unset, .unset, .unset] [(.int (1 : Int32))])) _
            refine XS.goto X61.here hx rfl (pc0 := 234) (pc' := 238) rfl (hb hby at_234) (by decide) (by decide) ?_
            exact k
          · rw [if_neg hs223] at k
            refine XS.icmpNo X61.here hx rfl (hb hby at_223) rfl (XT.ii_eq_f hs223) ?_
            show Steps p.tables e below (T61.setTop (mkF m 226 #[.val (.int p1), .val (.int p2), .val (.int p3), .val (.int p4), .val (.int p5), .val (.int p6), .val (.int ra1), .val (.int ra2), .val (.int rb1), .val (.int rb2), .val (.int pp), .val (.int vnA), .val (.int vnB), .val (.int vsf), .val (.ref bz4), .val (.ref bz18), .val (.ref bz45), .val (.int v17), .unset, .unset, .unset, .unset] [])) _
            refine XS.iload X61.here hx rfl (hb hby at_226) rfl ?_
            show Steps p.tables e below (T61.setTop (mkF m 228 #[.val (.int p1), .val (.int p2), .val (.int p3), .val (.int p4), .val (.int p5), .val (.int p6), .val (.int ra1), .val (.int ra2), .val (.int rb1), .val (.int rb2), .val (.int pp), .val (.int vnA), .val (.int vnB), .val (.int vsf), .val (.ref bz4), .val (.ref bz18), .val (.ref bz45), .val (.int v17), .unset, .unset, .unset, .unset] [(.int pp)])) _
            refine XS.iload X61.here hx rfl (hb hby at_228) rfl ?_
            show Steps p.tables e below (T61.setTop (mkF m 230 #[.val (.int p1), .val (.int p2), .val (.int p3), .val (.int p4), .val (.int p5), .val (.int p6), .val (.int ra1), .val (.int ra2), .val (.int rb1), .val (.int rb2), .val (.int pp), .val (.int vnA), .val (.int vnB), .val (.int vsf), .val (.ref bz4), .val (.ref bz18), .val (.ref bz45), .val (.int v17), .unset, .unset, .unset, .unset] [(.int rb2), (.int pp)])) _
            by_cases hs230 : pp = rb2
            · rw [if_pos hs230] at k
              refine XS.icmpNo X61.here hx rfl (hb hby at_230) rfl (XT.ii_ne_f hs230) ?_
              show Steps p.tables e below (T61.setTop (mkF m 233 #[.val (.int p1), .val (.int p2), .val (.int p3), .val (.int p4), .val (.int p5), .val (.int p6), .val (.int ra1), .val (.int ra2), .val (.int rb1), .val (.int rb2), .val (.int pp), .val (.int vnA), .val (.int vnB), .val (.int vsf), .val (.ref bz4), .val (.ref bz18), .val (.ref bz45), .val (.int v17), .unset, .unset, .unset, .unset] [])) _
              refine XS.iconst X61.here hx rfl (hb hby at_233) ?_
              show Steps p.tables e below (T61.setTop (mkF m 234 #[.val (.int p1), .val (.int p2), .val (.int p3), .val (.int p4), .val (.int p5), .val (.int p6), .val (.int ra1), .val (.int ra2), .val (.int rb1), .val (.int rb2), .val (.int pp), .val (.int vnA), .val (.int vnB), .val (.int vsf), .val (.ref bz4), .val (.ref bz18), .val (.ref bz45), .val (.int v17), .unset, .unset, .unset, .unset] [(.int (1 : Int32))])) _
              refine XS.goto X61.here hx rfl (pc0 := 234) (pc' := 238) rfl (hb hby at_234) (by decide) (by decide) ?_
              exact k
            · rw [if_neg hs230] at k
              refine XS.icmpYes X61.here hx rfl (pc0 := 230) (pc' := 237) rfl (hb hby at_230) rfl (XT.ii_ne_t hs230) (by decide) (by decide) ?_
              show Steps p.tables e below (T61.setTop (mkF m 237 #[.val (.int p1), .val (.int p2), .val (.int p3), .val (.int p4), .val (.int p5), .val (.int p6), .val (.int ra1), .val (.int ra2), .val (.int rb1), .val (.int rb2), .val (.int pp), .val (.int vnA), .val (.int vnB), .val (.int vsf), .val (.ref bz4), .val (.ref bz18), .val (.ref bz45), .val (.int v17), .unset, .unset, .unset, .unset] [])) _
              refine XS.iconst X61.here hx rfl (hb hby at_237) ?_
              exact k
        refine OGo.st st72 ?_
        obtain ⟨v18, hvz73, st73⟩ : ∃ v18 : Int32, v18 = (if t2 = vnB then (0 : Int32) else (1 : Int32)) ∧ ∀ t, Steps p.tables e below (T61.setTop (mkF m 248 #[.val (.int p1), .val (.int p2), .val (.int p3), .val (.int p4), .val (.int p5), .val (.int p6), .val (.int ra1), .val (.int ra2), .val (.int rb1), .val (.int rb2), .val (.int pp), .val (.int vnA), .val (.int vnB), .val (.int vsf), .val (.ref bz4), .val (.ref bz18), .val (.ref bz45), .val (.int v17), .unset, .unset, .unset, .unset] [(.int v18)])) t → Steps p.tables e below (T61.setTop (mkF m 238 #[.val (.int p1), .val (.int p2), .val (.int p3), .val (.int p4), .val (.int p5), .val (.int p6), .val (.int ra1), .val (.int ra2), .val (.int rb1), .val (.int rb2), .val (.int pp), .val (.int vnA), .val (.int vnB), .val (.int vsf), .val (.ref bz4), .val (.ref bz18), .val (.ref bz45), .val (.int v17), .unset, .unset, .unset, .unset] [(.int t2)])) t := by
          refine ⟨_, rfl, fun t k => ?_⟩
          show Steps p.tables e below (T61.setTop (mkF m 238 #[.val (.int p1), .val (.int p2), .val (.int p3), .val (.int p4), .val (.int p5), .val (.int p6), .val (.int ra1), .val (.int ra2), .val (.int rb1), .val (.int rb2), .val (.int pp), .val (.int vnA), .val (.int vnB), .val (.int vsf), .val (.ref bz4), .val (.ref bz18), .val (.ref bz45), .val (.int v17), .unset, .unset, .unset, .unset] [(.int t2)])) _
          refine XS.iload X61.here hx rfl (hb hby at_238) rfl ?_
          show Steps p.tables e below (T61.setTop (mkF m 240 #[.val (.int p1), .val (.int p2), .val (.int p3), .val (.int p4), .val (.int p5), .val (.int p6), .val (.int ra1), .val (.int ra2), .val (.int rb1), .val (.int rb2), .val (.int pp), .val (.int vnA), .val (.int vnB), .val (.int vsf), .val (.ref bz4), .val (.ref bz18), .val (.ref bz45), .val (.int v17), .unset, .unset, .unset, .unset] [(.int vnB), (.int t2)])) _
          by_cases hs240 : t2 = vnB
          · rw [if_pos hs240] at k
            refine XS.icmpYes X61.here hx rfl (pc0 := 240) (pc' := 247) rfl (hb hby at_240) rfl (XT.ii_eq_t hs240) (by decide) (by decide) ?_
            show Steps p.tables e below (T61.setTop (mkF m 247 #[.val (.int p1), .val (.int p2), .val (.int p3), .val (.int p4), .val (.int p5), .val (.int p6), .val (.int ra1), .val (.int ra2), .val (.int rb1), .val (.int rb2), .val (.int pp), .val (.int vnA), .val (.int vnB), .val (.int vsf), .val (.ref bz4), .val (.ref bz18), .val (.ref bz45), .val (.int v17), .unset, .unset, .unset, .unset] [])) _
            refine XS.iconst X61.here hx rfl (hb hby at_247) ?_
            exact k
          · rw [if_neg hs240] at k
            refine XS.icmpNo X61.here hx rfl (hb hby at_240) rfl (XT.ii_eq_f hs240) ?_
            show Steps p.tables e below (T61.setTop (mkF m 243 #[.val (.int p1), .val (.int p2), .val (.int p3), .val (.int p4), .val (.int p5), .val (.int p6), .val (.int ra1), .val (.int ra2), .val (.int rb1), .val (.int rb2), .val (.int pp), .val (.int vnA), .val (.int vnB), .val (.int vsf), .val (.ref bz4), .val (.ref bz18), .val (.ref bz45), .val (.int v17), .unset, .unset, .unset, .unset] [])) _
            refine XS.iconst X61.here hx rfl (hb hby at_243) ?_
            show Steps p.tables e below (T61.setTop (mkF m 244 #[.val (.int p1), .val (.int p2), .val (.int p3), .val (.int p4), .val (.int p5), .val (.int p6), .val (.int ra1), .val (.int ra2), .val (.int rb1), .val (.int rb2), .val (.int pp), .val (.int vnA), .val (.int vnB), .val (.int vsf), .val (.ref bz4), .val (.ref bz18), .val (.ref bz45), .val (.int v17), .unset, .unset, .unset, .unset] [(.int (1 : Int32))])) _
            refine XS.goto X61.here hx rfl (pc0 := 244) (pc' := 248) rfl (hb hby at_244) (by decide) (by decide) ?_
            exact k
        refine OGo.st st73 ?_
        show OGo p.tables e below _ (T61.setTop (mkF m 248 #[.val (.int p1), .val (.int p2), .val (.int p3), .val (.int p4), .val (.int p5), .val (.int p6), .val (.int ra1), .val (.int ra2), .val (.int rb1), .val (.int rb2), .val (.int pp), .val (.int vnA), .val (.int vnB), .val (.int vsf), .val (.ref bz4), .val (.ref bz18), .val (.ref bz45), .val (.int v17), .unset, .unset, .unset, .unset] [(.int v18)]))
        refine OGo.st (fun _ k_ => XS.istore X61.here hx rfl (hb hby at_248) rfl (l' := #[.val (.int p1), .val (.int p2), .val (.int p3), .val (.int p4), .val (.int p5), .val (.int p6), .val (.int ra1), .val (.int ra2), .val (.int rb1), .val (.int rb2), .val (.int pp), .val (.int vnA), .val (.int vnB), .val (.int vsf), .val (.ref bz4), .val (.ref bz18), .val (.ref bz45), .val (.int v17), .val (.int v18), .unset, .unset, .unset]) rfl k_) ?_
        show OGo p.tables e below _ (T61.setTop (mkF m 250 #[.val (.int p1), .val (.int p2), .val (.int p3), .val (.int p4), .val (.int p5), .val (.int p6), .val (.int ra1), .val (.int ra2), .val (.int rb1), .val (.int rb2), .val (.int pp), .val (.int vnA), .val (.int vnB), .val (.int vsf), .val (.ref bz4), .val (.ref bz18), .val (.ref bz45), .val (.int v17), .val (.int v18), .unset, .unset, .unset] []))
        refine OGo.st (fun _ k_ => XS.aload X61.here hx rfl (hb hby at_250) rfl rfl k_) ?_
        show OGo p.tables e below _ (T61.setTop (mkF m 252 #[.val (.int p1), .val (.int p2), .val (.int p3), .val (.int p4), .val (.int p5), .val (.int p6), .val (.int ra1), .val (.int ra2), .val (.int rb1), .val (.int rb2), .val (.int pp), .val (.int vnA), .val (.int vnB), .val (.int vsf), .val (.ref bz4), .val (.ref bz18), .val (.ref bz45), .val (.int v17), .val (.int v18), .unset, .unset, .unset] [(.ref bz45)]))
        refine OGo.st (fun _ k_ => XS.iload X61.here hx rfl (hb hby at_252) rfl k_) ?_
        show OGo p.tables e below _ (T61.setTop (mkF m 254 #[.val (.int p1), .val (.int p2), .val (.int p3), .val (.int p4), .val (.int p5), .val (.int p6), .val (.int ra1), .val (.int ra2), .val (.int rb1), .val (.int rb2), .val (.int pp), .val (.int vnA), .val (.int vnB), .val (.int vsf), .val (.ref bz4), .val (.ref bz18), .val (.ref bz45), .val (.int v17), .val (.int v18), .unset, .unset, .unset] [(.int pp), (.ref bz45)]))
        refine OGo.st (fun _ k_ => XS.bipush X61.here hx rfl (hb hby at_254) k_) ?_
        show OGo p.tables e below _ (T61.setTop (mkF m 256 #[.val (.int p1), .val (.int p2), .val (.int p3), .val (.int p4), .val (.int p5), .val (.int p6), .val (.int ra1), .val (.int ra2), .val (.int rb1), .val (.int rb2), .val (.int pp), .val (.int vnA), .val (.int vnB), .val (.int vsf), .val (.ref bz4), .val (.ref bz18), .val (.ref bz45), .val (.int v17), .val (.int v18), .unset, .unset, .unset] [(.int (6 : Int32)), (.int pp), (.ref bz45)]))
        refine OGo.st (fun _ k_ => XS.iushr X61.here hx rfl (hb hby at_256) rfl k_) ?_
        show OGo p.tables e below _ (T61.setTop (mkF m 257 #[.val (.int p1), .val (.int p2), .val (.int p3), .val (.int p4), .val (.int p5), .val (.int p6), .val (.int ra1), .val (.int ra2), .val (.int rb1), .val (.int rb2), .val (.int pp), .val (.int vnA), .val (.int vnB), .val (.int vsf), .val (.ref bz4), .val (.ref bz18), .val (.ref bz45), .val (.int v17), .val (.int v18), .unset, .unset, .unset] [(.int ((pp.toUInt32 >>> ((6 : Int32) &&& 31).toUInt32).toInt32)), (.ref bz45)]))
        have qz74 := own_ldJ X61 hx hZ rfl Af_69 (j := ((pp.toUInt32 >>> ((6 : Int32) &&& 31).toUInt32).toInt32)) (v := (wC (own_nn pp / 64))) (own_ixin8 pp hpp_) (own_rd1 wC wB pp hpp_) (g := (mkF m 257 #[.val (.int p1), .val (.int p2), .val (.int p3), .val (.int p4), .val (.int p5), .val (.int p6), .val (.int ra1), .val (.int ra2), .val (.int rb1), .val (.int rb2), .val (.int pp), .val (.int vnA), .val (.int vnB), .val (.int vsf), .val (.ref bz4), .val (.ref bz18), .val (.ref bz45), .val (.int v17), .val (.int v18), .unset, .unset, .unset] [(.int ((pp.toUInt32 >>> ((6 : Int32) &&& 31).toUInt32).toInt32)), (.ref bz45)])) rfl rfl (hb hby at_257)
        refine OGo.st qz74 ?_
        show OGo p.tables e below _ (T61.setTop (mkF m 258 #[.val (.int p1), .val (.int p2), .val (.int p3), .val (.int p4), .val (.int p5), .val (.int p6), .val (.int ra1), .val (.int ra2), .val (.int rb1), .val (.int rb2), .val (.int pp), .val (.int vnA), .val (.int vnB), .val (.int vsf), .val (.ref bz4), .val (.ref bz18), .val (.ref bz45), .val (.int v17), .val (.int v18), .unset, .unset, .unset] [(.long (wC (own_nn pp / 64)))]))
        refine OGo.st (fun _ k_ => XS.iload X61.here hx rfl (hb hby at_258) rfl k_) ?_
        show OGo p.tables e below _ (T61.setTop (mkF m 260 #[.val (.int p1), .val (.int p2), .val (.int p3), .val (.int p4), .val (.int p5), .val (.int p6), .val (.int ra1), .val (.int ra2), .val (.int rb1), .val (.int rb2), .val (.int pp), .val (.int vnA), .val (.int vnB), .val (.int vsf), .val (.ref bz4), .val (.ref bz18), .val (.ref bz45), .val (.int v17), .val (.int v18), .unset, .unset, .unset] [(.int pp), (.long (wC (own_nn pp / 64)))]))
        refine OGo.st (fun _ k_ => XS.bipush X61.here hx rfl (hb hby at_260) k_) ?_
        show OGo p.tables e below _ (T61.setTop (mkF m 262 #[.val (.int p1), .val (.int p2), .val (.int p3), .val (.int p4), .val (.int p5), .val (.int p6), .val (.int ra1), .val (.int ra2), .val (.int rb1), .val (.int rb2), .val (.int pp), .val (.int vnA), .val (.int vnB), .val (.int vsf), .val (.ref bz4), .val (.ref bz18), .val (.ref bz45), .val (.int v17), .val (.int v18), .unset, .unset, .unset] [(.int (63 : Int32)), (.int pp), (.long (wC (own_nn pp / 64)))]))
        refine OGo.st (fun _ k_ => XS.iand X61.here hx rfl (hb hby at_262) rfl k_) ?_
        show OGo p.tables e below _ (T61.setTop (mkF m 263 #[.val (.int p1), .val (.int p2), .val (.int p3), .val (.int p4), .val (.int p5), .val (.int p6), .val (.int ra1), .val (.int ra2), .val (.int rb1), .val (.int rb2), .val (.int pp), .val (.int vnA), .val (.int vnB), .val (.int vsf), .val (.ref bz4), .val (.ref bz18), .val (.ref bz45), .val (.int v17), .val (.int v18), .unset, .unset, .unset] [(.int (pp &&& (63 : Int32))), (.long (wC (own_nn pp / 64)))]))
        refine OGo.st (fun _ k_ => XS.lushr X61.here hx rfl (hb hby at_263) rfl k_) ?_
        show OGo p.tables e below _ (T61.setTop (mkF m 264 #[.val (.int p1), .val (.int p2), .val (.int p3), .val (.int p4), .val (.int p5), .val (.int p6), .val (.int ra1), .val (.int ra2), .val (.int rb1), .val (.int rb2), .val (.int pp), .val (.int vnA), .val (.int vnB), .val (.int vsf), .val (.ref bz4), .val (.ref bz18), .val (.ref bz45), .val (.int v17), .val (.int v18), .unset, .unset, .unset] [(.long (((wC (own_nn pp / 64)).toUInt64 >>> ((pp &&& (63 : Int32)) &&& 0x3f).toInt64.toUInt64).toInt64))]))
        refine OGo.st (fun _ k_ => XS.lconst X61.here hx rfl (hb hby at_264) k_) ?_
        show OGo p.tables e below _ (T61.setTop (mkF m 265 #[.val (.int p1), .val (.int p2), .val (.int p3), .val (.int p4), .val (.int p5), .val (.int p6), .val (.int ra1), .val (.int ra2), .val (.int rb1), .val (.int rb2), .val (.int pp), .val (.int vnA), .val (.int vnB), .val (.int vsf), .val (.ref bz4), .val (.ref bz18), .val (.ref bz45), .val (.int v17), .val (.int v18), .unset, .unset, .unset] [(.long (1 : Int64)), (.long (((wC (own_nn pp / 64)).toUInt64 >>> ((pp &&& (63 : Int32)) &&& 0x3f).toInt64.toUInt64).toInt64))]))
        refine OGo.st (fun _ k_ => XS.land X61.here hx rfl (hb hby at_265) rfl k_) ?_
        show OGo p.tables e below _ (T61.setTop (mkF m 266 #[.val (.int p1), .val (.int p2), .val (.int p3), .val (.int p4), .val (.int p5), .val (.int p6), .val (.int ra1), .val (.int ra2), .val (.int rb1), .val (.int rb2), .val (.int pp), .val (.int vnA), .val (.int vnB), .val (.int vsf), .val (.ref bz4), .val (.ref bz18), .val (.ref bz45), .val (.int v17), .val (.int v18), .unset, .unset, .unset] [(.long ((((wC (own_nn pp / 64)).toUInt64 >>> ((pp &&& (63 : Int32)) &&& 0x3f).toInt64.toUInt64).toInt64) &&& (1 : Int64)))]))
        refine OGo.st (fun _ k_ => XS.lconst X61.here hx rfl (hb hby at_266) k_) ?_
        obtain ⟨v19, hvz75, st75⟩ : ∃ v19 : Int32, v19 = (if ((((wC (own_nn pp / 64)).toUInt64 >>> ((pp &&& (63 : Int32)) &&& 0x3f).toInt64.toUInt64).toInt64) &&& (1 : Int64)) = (0 : Int64) then (0 : Int32) else (1 : Int32)) ∧ ∀ t, Steps p.tables e below (T61.setTop (mkF m 276 #[.val (.int p1), .val (.int p2), .val (.int p3), .val (.int p4), .val (.int p5), .val (.int p6), .val (.int ra1), .val (.int ra2), .val (.int rb1), .val (.int rb2), .val (.int pp), .val (.int vnA), .val (.int vnB), .val (.int vsf), .val (.ref bz4), .val (.ref bz18), .val (.ref bz45), .val (.int v17), .val (.int v18), .unset, .unset, .unset] [(.int v19)])) t → Steps p.tables e below (T61.setTop (mkF m 267 #[.val (.int p1), .val (.int p2), .val (.int p3), .val (.int p4), .val (.int p5), .val (.int p6), .val (.int ra1), .val (.int ra2), .val (.int rb1), .val (.int rb2), .val (.int pp), .val (.int vnA), .val (.int vnB), .val (.int vsf), .val (.ref bz4), .val (.ref bz18), .val (.ref bz45), .val (.int v17), .val (.int v18), .unset, .unset, .unset] [(.long (0 : Int64)), (.long ((((wC (own_nn pp / 64)).toUInt64 >>> ((pp &&& (63 : Int32)) &&& 0x3f).toInt64.toUInt64).toInt64) &&& (1 : Int64)))])) t := by
          refine ⟨_, rfl, fun t k => ?_⟩
          show Steps p.tables e below (T61.setTop (mkF m 267 #[.val (.int p1), .val (.int p2), .val (.int p3), .val (.int p4), .val (.int p5), .val (.int p6), .val (.int ra1), .val (.int ra2), .val (.int rb1), .val (.int rb2), .val (.int pp), .val (.int vnA), .val (.int vnB), .val (.int vsf), .val (.ref bz4), .val (.ref bz18), .val (.ref bz45), .val (.int v17), .val (.int v18), .unset, .unset, .unset] [(.long (0 : Int64)), (.long ((((wC (own_nn pp / 64)).toUInt64 >>> ((pp &&& (63 : Int32)) &&& 0x3f).toInt64.toUInt64).toInt64) &&& (1 : Int64)))])) _
          by_cases hs267 : ((((wC (own_nn pp / 64)).toUInt64 >>> ((pp &&& (63 : Int32)) &&& 0x3f).toInt64.toUInt64).toInt64) &&& (1 : Int64)) = (0 : Int64)
          · rw [if_pos hs267] at k
            refine XT.lcmp X61.here hx rfl (hb hby at_267) rfl ?_
            show Steps p.tables e below (T61.setTop (mkF m 268 #[.val (.int p1), .val (.int p2), .val (.int p3), .val (.int p4), .val (.int p5), .val (.int p6), .val (.int ra1), .val (.int ra2), .val (.int rb1), .val (.int rb2), .val (.int pp), .val (.int vnA), .val (.int vnB), .val (.int vsf), .val (.ref bz4), .val (.ref bz18), .val (.ref bz45), .val (.int v17), .val (.int v18), .unset, .unset, .unset] [(.int (XT.cmpL ((((wC (own_nn pp / 64)).toUInt64 >>> ((pp &&& (63 : Int32)) &&& 0x3f).toInt64.toUInt64).toInt64) &&& (1 : Int64)) (0 : Int64)))])) _
            refine XS.ifYes X61.here hx rfl (pc0 := 268) (pc' := 275) rfl (hb hby at_268) rfl (XT.ll_eq_t hs267) (by decide) (by decide) ?_
            show Steps p.tables e below (T61.setTop (mkF m 275 #[.val (.int p1), .val (.int p2), .val (.int p3), .val (.int p4), .val (.int p5), .val (.int p6), .val (.int ra1), .val (.int ra2), .val (.int rb1), .val (.int rb2), .val (.int pp), .val (.int vnA), .val (.int vnB), .val (.int vsf), .val (.ref bz4), .val (.ref bz18), .val (.ref bz45), .val (.int v17), .val (.int v18), .unset, .unset, .unset] [])) _
            refine XS.iconst X61.here hx rfl (hb hby at_275) ?_
            exact k
          · rw [if_neg hs267] at k
            refine XT.lcmp X61.here hx rfl (hb hby at_267) rfl ?_
            show Steps p.tables e below (T61.setTop (mkF m 268 #[.val (.int p1), .val (.int p2), .val (.int p3), .val (.int p4), .val (.int p5), .val (.int p6), .val (.int ra1), .val (.int ra2), .val (.int rb1), .val (.int rb2), .val (.int pp), .val (.int vnA), .val (.int vnB), .val (.int vsf), .val (.ref bz4), .val (.ref bz18), .val (.ref bz45), .val (.int v17), .val (.int v18), .unset, .unset, .unset] [(.int (XT.cmpL ((((wC (own_nn pp / 64)).toUInt64 >>> ((pp &&& (63 : Int32)) &&& 0x3f).toInt64.toUInt64).toInt64) &&& (1 : Int64)) (0 : Int64)))])) _
            refine XS.ifNo X61.here hx rfl (hb hby at_268) rfl (XT.ll_eq_f hs267) ?_
            show Steps p.tables e below (T61.setTop (mkF m 271 #[.val (.int p1), .val (.int p2), .val (.int p3), .val (.int p4), .val (.int p5), .val (.int p6), .val (.int ra1), .val (.int ra2), .val (.int rb1), .val (.int rb2), .val (.int pp), .val (.int vnA), .val (.int vnB), .val (.int vsf), .val (.ref bz4), .val (.ref bz18), .val (.ref bz45), .val (.int v17), .val (.int v18), .unset, .unset, .unset] [])) _
            refine XS.iconst X61.here hx rfl (hb hby at_271) ?_
            show Steps p.tables e below (T61.setTop (mkF m 272 #[.val (.int p1), .val (.int p2), .val (.int p3), .val (.int p4), .val (.int p5), .val (.int p6), .val (.int ra1), .val (.int ra2), .val (.int rb1), .val (.int rb2), .val (.int pp), .val (.int vnA), .val (.int vnB), .val (.int vsf), .val (.ref bz4), .val (.ref bz18), .val (.ref bz45), .val (.int v17), .val (.int v18), .unset, .unset, .unset] [(.int (1 : Int32))])) _
            refine XS.goto X61.here hx rfl (pc0 := 272) (pc' := 276) rfl (hb hby at_272) (by decide) (by decide) ?_
            exact k
        refine OGo.st st75 ?_
        show OGo p.tables e below _ (T61.setTop (mkF m 276 #[.val (.int p1), .val (.int p2), .val (.int p3), .val (.int p4), .val (.int p5), .val (.int p6), .val (.int ra1), .val (.int ra2), .val (.int rb1), .val (.int rb2), .val (.int pp), .val (.int vnA), .val (.int vnB), .val (.int vsf), .val (.ref bz4), .val (.ref bz18), .val (.ref bz45), .val (.int v17), .val (.int v18), .unset, .unset, .unset] [(.int v19)]))
        refine OGo.st (fun _ k_ => XS.istore X61.here hx rfl (hb hby at_276) rfl (l' := #[.val (.int p1), .val (.int p2), .val (.int p3), .val (.int p4), .val (.int p5), .val (.int p6), .val (.int ra1), .val (.int ra2), .val (.int rb1), .val (.int rb2), .val (.int pp), .val (.int vnA), .val (.int vnB), .val (.int vsf), .val (.ref bz4), .val (.ref bz18), .val (.ref bz45), .val (.int v17), .val (.int v18), .val (.int v19), .unset, .unset]) rfl k_) ?_
        show OGo p.tables e below _ (T61.setTop (mkF m 278 #[.val (.int p1), .val (.int p2), .val (.int p3), .val (.int p4), .val (.int p5), .val (.int p6), .val (.int ra1), .val (.int ra2), .val (.int rb1), .val (.int rb2), .val (.int pp), .val (.int vnA), .val (.int vnB), .val (.int vsf), .val (.ref bz4), .val (.ref bz18), .val (.ref bz45), .val (.int v17), .val (.int v18), .val (.int v19), .unset, .unset] []))
        refine OGo.st (fun _ k_ => XS.aload X61.here hx rfl (hb hby at_278) rfl rfl k_) ?_
        show OGo p.tables e below _ (T61.setTop (mkF m 280 #[.val (.int p1), .val (.int p2), .val (.int p3), .val (.int p4), .val (.int p5), .val (.int p6), .val (.int ra1), .val (.int ra2), .val (.int rb1), .val (.int rb2), .val (.int pp), .val (.int vnA), .val (.int vnB), .val (.int vsf), .val (.ref bz4), .val (.ref bz18), .val (.ref bz45), .val (.int v17), .val (.int v18), .val (.int v19), .unset, .unset] [(.ref bz45)]))
        refine OGo.st (fun _ k_ => XS.iconst X61.here hx rfl (hb hby at_280) k_) ?_
        show OGo p.tables e below _ (T61.setTop (mkF m 281 #[.val (.int p1), .val (.int p2), .val (.int p3), .val (.int p4), .val (.int p5), .val (.int p6), .val (.int ra1), .val (.int ra2), .val (.int rb1), .val (.int rb2), .val (.int pp), .val (.int vnA), .val (.int vnB), .val (.int vsf), .val (.ref bz4), .val (.ref bz18), .val (.ref bz45), .val (.int v17), .val (.int v18), .val (.int v19), .unset, .unset] [(.int (4 : Int32)), (.ref bz45)]))
        refine OGo.st (fun _ k_ => XS.iload X61.here hx rfl (hb hby at_281) rfl k_) ?_
        show OGo p.tables e below _ (T61.setTop (mkF m 283 #[.val (.int p1), .val (.int p2), .val (.int p3), .val (.int p4), .val (.int p5), .val (.int p6), .val (.int ra1), .val (.int ra2), .val (.int rb1), .val (.int rb2), .val (.int pp), .val (.int vnA), .val (.int vnB), .val (.int vsf), .val (.ref bz4), .val (.ref bz18), .val (.ref bz45), .val (.int v17), .val (.int v18), .val (.int v19), .unset, .unset] [(.int pp), (.int (4 : Int32)), (.ref bz45)]))
        refine OGo.st (fun _ k_ => XS.bipush X61.here hx rfl (hb hby at_283) k_) ?_
        show OGo p.tables e below _ (T61.setTop (mkF m 285 #[.val (.int p1), .val (.int p2), .val (.int p3), .val (.int p4), .val (.int p5), .val (.int p6), .val (.int ra1), .val (.int ra2), .val (.int rb1), .val (.int rb2), .val (.int pp), .val (.int vnA), .val (.int vnB), .val (.int vsf), .val (.ref bz4), .val (.ref bz18), .val (.ref bz45), .val (.int v17), .val (.int v18), .val (.int v19), .unset, .unset] [(.int (6 : Int32)), (.int pp), (.int (4 : Int32)), (.ref bz45)]))
        refine OGo.st (fun _ k_ => XS.iushr X61.here hx rfl (hb hby at_285) rfl k_) ?_
        show OGo p.tables e below _ (T61.setTop (mkF m 286 #[.val (.int p1), .val (.int p2), .val (.int p3), .val (.int p4), .val (.int p5), .val (.int p6), .val (.int ra1), .val (.int ra2), .val (.int rb1), .val (.int rb2), .val (.int pp), .val (.int vnA), .val (.int vnB), .val (.int vsf), .val (.ref bz4), .val (.ref bz18), .val (.ref bz45), .val (.int v17), .val (.int v18), .val (.int v19), .unset, .unset] [(.int ((pp.toUInt32 >>> ((6 : Int32) &&& 31).toUInt32).toInt32)), (.int (4 : Int32)), (.ref bz45)]))
        refine OGo.st (fun _ k_ => XS.iadd X61.here hx rfl (hb hby at_286) rfl k_) ?_
        show OGo p.tables e below _ (T61.setTop (mkF m 287 #[.val (.int p1), .val (.int p2), .val (.int p3), .val (.int p4), .val (.int p5), .val (.int p6), .val (.int ra1), .val (.int ra2), .val (.int rb1), .val (.int rb2), .val (.int pp), .val (.int vnA), .val (.int vnB), .val (.int vsf), .val (.ref bz4), .val (.ref bz18), .val (.ref bz45), .val (.int v17), .val (.int v18), .val (.int v19), .unset, .unset] [(.int ((4 : Int32) + ((pp.toUInt32 >>> ((6 : Int32) &&& 31).toUInt32).toInt32))), (.ref bz45)]))
        have qz76 := own_ldJ X61 hx hZ rfl Af_69 (j := ((4 : Int32) + ((pp.toUInt32 >>> ((6 : Int32) &&& 31).toUInt32).toInt32))) (v := (wB (own_nn pp / 64))) (own_ixin84 pp hpp_) (own_rd2 wC wB pp hpp_) (g := (mkF m 287 #[.val (.int p1), .val (.int p2), .val (.int p3), .val (.int p4), .val (.int p5), .val (.int p6), .val (.int ra1), .val (.int ra2), .val (.int rb1), .val (.int rb2), .val (.int pp), .val (.int vnA), .val (.int vnB), .val (.int vsf), .val (.ref bz4), .val (.ref bz18), .val (.ref bz45), .val (.int v17), .val (.int v18), .val (.int v19), .unset, .unset] [(.int ((4 : Int32) + ((pp.toUInt32 >>> ((6 : Int32) &&& 31).toUInt32).toInt32))), (.ref bz45)])) rfl rfl (hb hby at_287)
        refine OGo.st qz76 ?_
        show OGo p.tables e below _ (T61.setTop (mkF m 288 #[.val (.int p1), .val (.int p2), .val (.int p3), .val (.int p4), .val (.int p5), .val (.int p6), .val (.int ra1), .val (.int ra2), .val (.int rb1), .val (.int rb2), .val (.int pp), .val (.int vnA), .val (.int vnB), .val (.int vsf), .val (.ref bz4), .val (.ref bz18), .val (.ref bz45), .val (.int v17), .val (.int v18), .val (.int v19), .unset, .unset] [(.long (wB (own_nn pp / 64)))]))
        refine OGo.st (fun _ k_ => XS.iload X61.here hx rfl (hb hby at_288) rfl k_) ?_
        show OGo p.tables e below _ (T61.setTop (mkF m 290 #[.val (.int p1), .val (.int p2), .val (.int p3), .val (.int p4), .val (.int p5), .val (.int p6), .val (.int ra1), .val (.int ra2), .val (.int rb1), .val (.int rb2), .val (.int pp), .val (.int vnA), .val (.int vnB), .val (.int vsf), .val (.ref bz4), .val (.ref bz18), .val (.ref bz45), .val (.int v17), .val (.int v18), .val (.int v19), .unset, .unset] [(.int pp), (.long (wB (own_nn pp / 64)))]))
        refine OGo.st (fun _ k_ => XS.bipush X61.here hx rfl (hb hby at_290) k_) ?_
        show OGo p.tables e below _ (T61.setTop (mkF m 292 #[.val (.int p1), .val (.int p2), .val (.int p3), .val (.int p4), .val (.int p5), .val (.int p6), .val (.int ra1), .val (.int ra2), .val (.int rb1), .val (.int rb2), .val (.int pp), .val (.int vnA), .val (.int vnB), .val (.int vsf), .val (.ref bz4), .val (.ref bz18), .val (.ref bz45), .val (.int v17), .val (.int v18), .val (.int v19), .unset, .unset] [(.int (63 : Int32)), (.int pp), (.long (wB (own_nn pp / 64)))]))
        refine OGo.st (fun _ k_ => XS.iand X61.here hx rfl (hb hby at_292) rfl k_) ?_
        show OGo p.tables e below _ (T61.setTop (mkF m 293 #[.val (.int p1), .val (.int p2), .val (.int p3), .val (.int p4), .val (.int p5), .val (.int p6), .val (.int ra1), .val (.int ra2), .val (.int rb1), .val (.int rb2), .val (.int pp), .val (.int vnA), .val (.int vnB), .val (.int vsf), .val (.ref bz4), .val (.ref bz18), .val (.ref bz45), .val (.int v17), .val (.int v18), .val (.int v19), .unset, .unset] [(.int (pp &&& (63 : Int32))), (.long (wB (own_nn pp / 64)))]))
        refine OGo.st (fun _ k_ => XS.lushr X61.here hx rfl (hb hby at_293) rfl k_) ?_
        show OGo p.tables e below _ (T61.setTop (mkF m 294 #[.val (.int p1), .val (.int p2), .val (.int p3), .val (.int p4), .val (.int p5), .val (.int p6), .val (.int ra1), .val (.int ra2), .val (.int rb1), .val (.int rb2), .val (.int pp), .val (.int vnA), .val (.int vnB), .val (.int vsf), .val (.ref bz4), .val (.ref bz18), .val (.ref bz45), .val (.int v17), .val (.int v18), .val (.int v19), .unset, .unset] [(.long (((wB (own_nn pp / 64)).toUInt64 >>> ((pp &&& (63 : Int32)) &&& 0x3f).toInt64.toUInt64).toInt64))]))
        refine OGo.st (fun _ k_ => XS.lconst X61.here hx rfl (hb hby at_294) k_) ?_
        show OGo p.tables e below _ (T61.setTop (mkF m 295 #[.val (.int p1), .val (.int p2), .val (.int p3), .val (.int p4), .val (.int p5), .val (.int p6), .val (.int ra1), .val (.int ra2), .val (.int rb1), .val (.int rb2), .val (.int pp), .val (.int vnA), .val (.int vnB), .val (.int vsf), .val (.ref bz4), .val (.ref bz18), .val (.ref bz45), .val (.int v17), .val (.int v18), .val (.int v19), .unset, .unset] [(.long (1 : Int64)), (.long (((wB (own_nn pp / 64)).toUInt64 >>> ((pp &&& (63 : Int32)) &&& 0x3f).toInt64.toUInt64).toInt64))]))
        refine OGo.st (fun _ k_ => XS.land X61.here hx rfl (hb hby at_295) rfl k_) ?_
        show OGo p.tables e below _ (T61.setTop (mkF m 296 #[.val (.int p1), .val (.int p2), .val (.int p3), .val (.int p4), .val (.int p5), .val (.int p6), .val (.int ra1), .val (.int ra2), .val (.int rb1), .val (.int rb2), .val (.int pp), .val (.int vnA), .val (.int vnB), .val (.int vsf), .val (.ref bz4), .val (.ref bz18), .val (.ref bz45), .val (.int v17), .val (.int v18), .val (.int v19), .unset, .unset] [(.long ((((wB (own_nn pp / 64)).toUInt64 >>> ((pp &&& (63 : Int32)) &&& 0x3f).toInt64.toUInt64).toInt64) &&& (1 : Int64)))]))
        refine OGo.st (fun _ k_ => XS.lconst X61.here hx rfl (hb hby at_296) k_) ?_
        obtain ⟨v20, hvz77, st77⟩ : ∃ v20 : Int32, v20 = (if ((((wB (own_nn pp / 64)).toUInt64 >>> ((pp &&& (63 : Int32)) &&& 0x3f).toInt64.toUInt64).toInt64) &&& (1 : Int64)) = (0 : Int64) then (0 : Int32) else (1 : Int32)) ∧ ∀ t, Steps p.tables e below (T61.setTop (mkF m 306 #[.val (.int p1), .val (.int p2), .val (.int p3), .val (.int p4), .val (.int p5), .val (.int p6), .val (.int ra1), .val (.int ra2), .val (.int rb1), .val (.int rb2), .val (.int pp), .val (.int vnA), .val (.int vnB), .val (.int vsf), .val (.ref bz4), .val (.ref bz18), .val (.ref bz45), .val (.int v17), .val (.int v18), .val (.int v19), .unset, .unset] [(.int v20)])) t → Steps p.tables e below (T61.setTop (mkF m 297 #[.val (.int p1), .val (.int p2), .val (.int p3), .val (.int p4), .val (.int p5), .val (.int p6), .val (.int ra1), .val (.int ra2), .val (.int rb1), .val (.int rb2), .val (.int pp), .val (.int vnA), .val (.int vnB), .val (.int vsf), .val (.ref bz4), .val (.ref bz18), .val (.ref bz45), .val (.int v17), .val (.int v18), .val (.int v19), .unset, .unset] [(.long (0 : Int64)), (.long ((((wB (own_nn pp / 64)).toUInt64 >>> ((pp &&& (63 : Int32)) &&& 0x3f).toInt64.toUInt64).toInt64) &&& (1 : Int64)))])) t := by
          refine ⟨_, rfl, fun t k => ?_⟩
          show Steps p.tables e below (T61.setTop (mkF m 297 #[.val (.int p1), .val (.int p2), .val (.int p3), .val (.int p4), .val (.int p5), .val (.int p6), .val (.int ra1), .val (.int ra2), .val (.int rb1), .val (.int rb2), .val (.int pp), .val (.int vnA), .val (.int vnB), .val (.int vsf), .val (.ref bz4), .val (.ref bz18), .val (.ref bz45), .val (.int v17), .val (.int v18), .val (.int v19), .unset, .unset] [(.long (0 : Int64)), (.long ((((wB (own_nn pp / 64)).toUInt64 >>> ((pp &&& (63 : Int32)) &&& 0x3f).toInt64.toUInt64).toInt64) &&& (1 : Int64)))])) _
          by_cases hs297 : ((((wB (own_nn pp / 64)).toUInt64 >>> ((pp &&& (63 : Int32)) &&& 0x3f).toInt64.toUInt64).toInt64) &&& (1 : Int64)) = (0 : Int64)
          · rw [if_pos hs297] at k
            refine XT.lcmp X61.here hx rfl (hb hby at_297) rfl ?_
            show Steps p.tables e below (T61.setTop (mkF m 298 #[.val (.int p1), .val (.int p2), .val (.int p3), .val (.int p4), .val (.int p5), .val (.int p6), .val (.int ra1), .val (.int ra2), .val (.int rb1), .val (.int rb2), .val (.int pp), .val (.int vnA), .val (.int vnB), .val (.int vsf), .val (.ref bz4), .val (.ref bz18), .val (.ref bz45), .val (.int v17), .val (.int v18), .val (.int v19), .unset, .unset] [(.int (XT.cmpL ((((wB (own_nn pp / 64)).toUInt64 >>> ((pp &&& (63 : Int32)) &&& 0x3f).toInt64.toUInt64).toInt64) &&& (1 : Int64)) (0 : Int64)))])) _
            refine XS.ifYes X61.here hx rfl (pc0 := 298) (pc' := 305) rfl (hb hby at_298) rfl (XT.ll_eq_t hs297) (by decide) (by decide) ?_
            show Steps p.tables e below (T61.setTop (mkF m 305 #[.val (.int p1), .val (.int p2), .val (.int p3), .val (.int p4), .val (.int p5), .val (.int p6), .val (.int ra1), .val (.int ra2), .val (.int rb1), .val (.int rb2), .val (.int pp), .val (.int vnA), .val (.int vnB), .val (.int vsf), .val (.ref bz4), .val (.ref bz18), .val (.ref bz45), .val (.int v17), .val (.int v18), .val (.int v19), .unset, .unset] [])) _
            refine XS.iconst X61.here hx rfl (hb hby at_305) ?_
            exact k
          · rw [if_neg hs297] at k
            refine XT.lcmp X61.here hx rfl (hb hby at_297) rfl ?_
            show Steps p.tables e below (T61.setTop (mkF m 298 #[.val (.int p1), .val (.int p2), .val (.int p3), .val (.int p4), .val (.int p5), .val (.int p6), .val (.int ra1), .val (.int ra2), .val (.int rb1), .val (.int rb2), .val (.int pp), .val (.int vnA), .val (.int vnB), .val (.int vsf), .val (.ref bz4), .val (.ref bz18), .val (.ref bz45), .val (.int v17), .val (.int v18), .val (.int v19), .unset, .unset] [(.int (XT.cmpL ((((wB (own_nn pp / 64)).toUInt64 >>> ((pp &&& (63 : Int32)) &&& 0x3f).toInt64.toUInt64).toInt64) &&& (1 : Int64)) (0 : Int64)))])) _
            refine XS.ifNo X61.here hx rfl (hb hby at_298) rfl (XT.ll_eq_f hs297) ?_
            show Steps p.tables e below (T61.setTop (mkF m 301 #[.val (.int p1), .val (.int p2), .val (.int p3), .val (.int p4), .val (.int p5), .val (.int p6), .val (.int ra1), .val (.int ra2), .val (.int rb1), .val (.int rb2), .val (.int pp), .val (.int vnA), .val (.int vnB), .val (.int vsf), .val (.ref bz4), .val (.ref bz18), .val (.ref bz45), .val (.int v17), .val (.int v18), .val (.int v19), .unset, .unset] [])) _
            refine XS.iconst X61.here hx rfl (hb hby at_301) ?_
            show Steps p.tables e below (T61.setTop (mkF m 302 #[.val (.int p1), .val (.int p2), .val (.int p3), .val (.int p4), .val (.int p5), .val (.int p6), .val (.int ra1), .val (.int ra2), .val (.int rb1), .val (.int rb2), .val (.int pp), .val (.int vnA), .val (.int vnB), .val (.int vsf), .val (.ref bz4), .val (.ref bz18), .val (.ref bz45), .val (.int v17), .val (.int v18), .val (.int v19), .unset, .unset] [(.int (1 : Int32))])) _
            refine XS.goto X61.here hx rfl (pc0 := 302) (pc' := 306) rfl (hb hby at_302) (by decide) (by decide) ?_
            exact k
        refine OGo.st st77 ?_
        show OGo p.tables e below _ (T61.setTop (mkF m 306 #[.val (.int p1), .val (.int p2), .val (.int p3), .val (.int p4), .val (.int p5), .val (.int p6), .val (.int ra1), .val (.int ra2), .val (.int rb1), .val (.int rb2), .val (.int pp), .val (.int vnA), .val (.int vnB), .val (.int vsf), .val (.ref bz4), .val (.ref bz18), .val (.ref bz45), .val (.int v17), .val (.int v18), .val (.int v19), .unset, .unset] [(.int v20)]))
        refine OGo.st (fun _ k_ => XS.istore X61.here hx rfl (hb hby at_306) rfl (l' := #[.val (.int p1), .val (.int p2), .val (.int p3), .val (.int p4), .val (.int p5), .val (.int p6), .val (.int ra1), .val (.int ra2), .val (.int rb1), .val (.int rb2), .val (.int pp), .val (.int vnA), .val (.int vnB), .val (.int vsf), .val (.ref bz4), .val (.ref bz18), .val (.ref bz45), .val (.int v17), .val (.int v18), .val (.int v19), .val (.int v20), .unset]) rfl k_) ?_
        obtain ⟨v21, hvz78, st78⟩ : ∃ v21 : Int32, v21 = (if v17 = 0 then (if vsf = 0 then (if v18 = 0 then (0 : Int32) else (1 : Int32)) else (0 : Int32)) else (1 : Int32)) ∧ ∀ t, Steps p.tables e below (T61.setTop (mkF m 328 #[.val (.int p1), .val (.int p2), .val (.int p3), .val (.int p4), .val (.int p5), .val (.int p6), .val (.int ra1), .val (.int ra2), .val (.int rb1), .val (.int rb2), .val (.int pp), .val (.int vnA), .val (.int vnB), .val (.int vsf), .val (.ref bz4), .val (.ref bz18), .val (.ref bz45), .val (.int v17), .val (.int v18), .val (.int v19), .val (.int v20), .unset] [(.int v21)])) t → Steps p.tables e below (T61.setTop (mkF m 308 #[.val (.int p1), .val (.int p2), .val (.int p3), .val (.int p4), .val (.int p5), .val (.int p6), .val (.int ra1), .val (.int ra2), .val (.int rb1), .val (.int rb2), .val (.int pp), .val (.int vnA), .val (.int vnB), .val (.int vsf), .val (.ref bz4), .val (.ref bz18), .val (.ref bz45), .val (.int v17), .val (.int v18), .val (.int v19), .val (.int v20), .unset] [])) t := by
          refine ⟨_, rfl, fun t k => ?_⟩
          show Steps p.tables e below (T61.setTop (mkF m 308 #[.val (.int p1), .val (.int p2), .val (.int p3), .val (.int p4), .val (.int p5), .val (.int p6), .val (.int ra1), .val (.int ra2), .val (.int rb1), .val (.int rb2), .val (.int pp), .val (.int vnA), .val (.int vnB), .val (.int vsf), .val (.ref bz4), .val (.ref bz18), .val (.ref bz45), .val (.int v17), .val (.int v18), .val (.int v19), .val (.int v20), .unset] [])) _
          refine XS.iload X61.here hx rfl (hb hby at_308) rfl ?_
          show Steps p.tables e below (T61.setTop (mkF m 310 #[.val (.int p1), .val (.int p2), .val (.int p3), .val (.int p4), .val (.int p5), .val (.int p6), .val (.int ra1), .val (.int ra2), .val (.int rb1), .val (.int rb2), .val (.int pp), .val (.int vnA), .val (.int vnB), .val (.int vsf), .val (.ref bz4), .val (.ref bz18), .val (.ref bz45), .val (.int v17), .val (.int v18), .val (.int v19), .val (.int v20), .unset] [(.int v17)])) _
          by_cases hs310 : v17 = 0
          · rw [if_pos hs310] at k
            refine XS.ifNo X61.here hx rfl (hb hby at_310) rfl (XT.i0_ne_f hs310) ?_
            show Steps p.tables e below (T61.setTop (mkF m 313 #[.val (.int p1), .val (.int p2), .val (.int p3), .val (.int p4), .val (.int p5), .val (.int p6), .val (.int ra1), .val (.int ra2), .val (.int rb1), .val (.int rb2), .val (.int pp), .val (.int vnA), .val (.int vnB), .val (.int vsf), .val (.ref bz4), .val (.ref bz18), .val (.ref bz45), .val (.int v17), .val (.int v18), .val (.int v19), .val (.int v20), .unset] [])) _
            refine XS.iload X61.here hx rfl (hb hby at_313) rfl ?_
            show Steps p.tables e below (T61.setTop (mkF m 315 #[.val (.int p1), .val (.int p2), .val (.int p3), .val (.int p4), .val (.int p5), .val (.int p6), .val (.int ra1), .val (.int ra2), .val (.int rb1), .val (.int rb2), .val (.int pp), .val (.int vnA), .val (.int vnB), .val (.int vsf), .val (.ref bz4), .val (.ref bz18), .val (.ref bz45), .val (.int v17), .val (.int v18), .val (.int v19), .val (.int v20), .unset] [(.int vsf)])) _
            by_cases hs315 : vsf = 0
            · rw [if_pos hs315] at k
              refine XS.ifNo X61.here hx rfl (hb hby at_315) rfl (XT.i0_ne_f hs315) ?_
              show Steps p.tables e below (T61.setTop (mkF m 318 #[.val (.int p1), .val (.int p2), .val (.int p3), .val (.int p4), .val (.int p5), .val (.int p6), .val (.int ra1), .val (.int ra2), .val (.int rb1), .val (.int rb2), .val (.int pp), .val (.int vnA), .val (.int vnB), .val (.int vsf), .val (.ref bz4), .val (.ref bz18), .val (.ref bz45), .val (.int v17), .val (.int v18), .val (.int v19), .val (.int v20), .unset] [])) _
              refine XS.iload X61.here hx rfl (hb hby at_318) rfl ?_
              show Steps p.tables e below (T61.setTop (mkF m 320 #[.val (.int p1), .val (.int p2), .val (.int p3), .val (.int p4), .val (.int p5), .val (.int p6), .val (.int ra1), .val (.int ra2), .val (.int rb1), .val (.int rb2), .val (.int pp), .val (.int vnA), .val (.int vnB), .val (.int vsf), .val (.ref bz4), .val (.ref bz18), .val (.ref bz45), .val (.int v17), .val (.int v18), .val (.int v19), .val (.int v20), .unset] [(.int v18)])) _
              by_cases hs320 : v18 = 0
              · rw [if_pos hs320] at k
                refine XS.ifYes X61.here hx rfl (pc0 := 320) (pc' := 327) rfl (hb hby at_320) rfl (XT.i0_eq_t hs320) (by decide) (by decide) ?_
                show Steps p.tables e below (T61.setTop (mkF m 327 #[.val (.int p1), .val (.int p2), .val (.int p3), .val (.int p4), .val (.int p5), .val (.int p6), .val (.int ra1), .val (.int ra2), .val (.int rb1), .val (.int rb2), .val (.int pp), .val (.int vnA), .val (.int vnB), .val (.int vsf), .val (.ref bz4), .val (.ref bz18), .val (.ref bz45), .val (.int v17), .val (.int v18), .val (.int v19), .val (.int v20), .unset] [])) _
                refine XS.iconst X61.here hx rfl (hb hby at_327) ?_
                exact k
              · rw [if_neg hs320] at k
                refine XS.ifNo X61.here hx rfl (hb hby at_320) rfl (XT.i0_eq_f hs320) ?_
                show Steps p.tables e below (T61.setTop (mkF m 323 #[.val (.int p1), .val (.int p2), .val (.int p3), .val (.int p4), .val (.int p5), .val (.int p6), .val (.int ra1), .val (.int ra2), .val (.int rb1), .val (.int rb2), .val (.int pp), .val (.int vnA), .val (.int vnB), .val (.int vsf), .val (.ref bz4), .val (.ref bz18), .val (.ref bz45), .val (.int v17), .val (.int v18), .val (.int v19), .val (.int v20), .unset] [])) _
                refine XS.iconst X61.here hx rfl (hb hby at_323) ?_
                show Steps p.tables e below (T61.setTop (mkF m 324 #[.val (.int p1), .val (.int p2), .val (.int p3), .val (.int p4), .val (.int p5), .val (.int p6), .val (.int ra1), .val (.int ra2), .val (.int rb1), .val (.int rb2), .val (.int pp), .val (.int vnA), .val (.int vnB), .val (.int vsf), .val (.ref bz4), .val (.ref bz18), .val (.ref bz45), .val (.int v17), .val (.int v18), .val (.int v19), .val (.int v20), .unset] [(.int (1 : Int32))])) _
                refine XS.goto X61.here hx rfl (pc0 := 324) (pc' := 328) rfl (hb hby at_324) (by decide) (by decide) ?_
                exact k
            · rw [if_neg hs315] at k
              refine XS.ifYes X61.here hx rfl (pc0 := 315) (pc' := 327) rfl (hb hby at_315) rfl (XT.i0_ne_t hs315) (by decide) (by decide) ?_
              show Steps p.tables e below (T61.setTop (mkF m 327 #[.val (.int p1), .val (.int p2), .val (.int p3), .val (.int p4), .val (.int p5), .val (.int p6), .val (.int ra1), .val (.int ra2), .val (.int rb1), .val (.int rb2), .val (.int pp), .val (.int vnA), .val (.int vnB), .val (.int vsf), .val (.ref bz4), .val (.ref bz18), .val (.ref bz45), .val (.int v17), .val (.int v18), .val (.int v19), .val (.int v20), .unset] [])) _
              refine XS.iconst X61.here hx rfl (hb hby at_327) ?_
              exact k
          · rw [if_neg hs310] at k
            refine XS.ifYes X61.here hx rfl (pc0 := 310) (pc' := 323) rfl (hb hby at_310) rfl (XT.i0_ne_t hs310) (by decide) (by decide) ?_
            show Steps p.tables e below (T61.setTop (mkF m 323 #[.val (.int p1), .val (.int p2), .val (.int p3), .val (.int p4), .val (.int p5), .val (.int p6), .val (.int ra1), .val (.int ra2), .val (.int rb1), .val (.int rb2), .val (.int pp), .val (.int vnA), .val (.int vnB), .val (.int vsf), .val (.ref bz4), .val (.ref bz18), .val (.ref bz45), .val (.int v17), .val (.int v18), .val (.int v19), .val (.int v20), .unset] [])) _
            refine XS.iconst X61.here hx rfl (hb hby at_323) ?_
            show Steps p.tables e below (T61.setTop (mkF m 324 #[.val (.int p1), .val (.int p2), .val (.int p3), .val (.int p4), .val (.int p5), .val (.int p6), .val (.int ra1), .val (.int ra2), .val (.int rb1), .val (.int rb2), .val (.int pp), .val (.int vnA), .val (.int vnB), .val (.int vsf), .val (.ref bz4), .val (.ref bz18), .val (.ref bz45), .val (.int v17), .val (.int v18), .val (.int v19), .val (.int v20), .unset] [(.int (1 : Int32))])) _
            refine XS.goto X61.here hx rfl (pc0 := 324) (pc' := 328) rfl (hb hby at_324) (by decide) (by decide) ?_
            exact k
        refine OGo.st st78 ?_
        have q17 := own_in hvz1 hvz70 hvz71 hwA
        have q18 := own_in hvz2 hvz72 hvz73 hwB
        have q19 := own_gv hvz75
        have q20 := own_gv hvz77
        show OGo p.tables e below _ (T61.setTop (mkF m 328 #[.val (.int p1), .val (.int p2), .val (.int p3), .val (.int p4), .val (.int p5), .val (.int p6), .val (.int ra1), .val (.int ra2), .val (.int rb1), .val (.int rb2), .val (.int pp), .val (.int vnA), .val (.int vnB), .val (.int vsf), .val (.ref bz4), .val (.ref bz18), .val (.ref bz45), .val (.int v17), .val (.int v18), .val (.int v19), .val (.int v20), .unset] [(.int v21)]))
        refine OGo.st (fun _ k_ => XS.istore X61.here hx rfl (hb hby at_328) rfl (l' := #[.val (.int p1), .val (.int p2), .val (.int p3), .val (.int p4), .val (.int p5), .val (.int p6), .val (.int ra1), .val (.int ra2), .val (.int rb1), .val (.int rb2), .val (.int pp), .val (.int vnA), .val (.int vnB), .val (.int vsf), .val (.ref bz4), .val (.ref bz18), .val (.ref bz45), .val (.int v17), .val (.int v18), .val (.int v19), .val (.int v20), .val (.int v21)]) rfl k_) ?_
        show OGo p.tables e below _ (T61.setTop (mkF m 330 #[.val (.int p1), .val (.int p2), .val (.int p3), .val (.int p4), .val (.int p5), .val (.int p6), .val (.int ra1), .val (.int ra2), .val (.int rb1), .val (.int rb2), .val (.int pp), .val (.int vnA), .val (.int vnB), .val (.int vsf), .val (.ref bz4), .val (.ref bz18), .val (.ref bz45), .val (.int v17), .val (.int v18), .val (.int v19), .val (.int v20), .val (.int v21)] []))
        refine OGo.st (fun _ k_ => XS.iload X61.here hx rfl (hb hby at_330) rfl k_) ?_
        show OGo p.tables e below _ (T61.setTop (mkF m 332 #[.val (.int p1), .val (.int p2), .val (.int p3), .val (.int p4), .val (.int p5), .val (.int p6), .val (.int ra1), .val (.int ra2), .val (.int rb1), .val (.int rb2), .val (.int pp), .val (.int vnA), .val (.int vnB), .val (.int vsf), .val (.ref bz4), .val (.ref bz18), .val (.ref bz45), .val (.int v17), .val (.int v18), .val (.int v19), .val (.int v20), .val (.int v21)] [(.int v19)]))
        refine OGo.st (fun _ k_ => XS.iload X61.here hx rfl (hb hby at_332) rfl k_) ?_
        show OGo p.tables e below _ (T61.setTop (mkF m 334 #[.val (.int p1), .val (.int p2), .val (.int p3), .val (.int p4), .val (.int p5), .val (.int p6), .val (.int ra1), .val (.int ra2), .val (.int rb1), .val (.int rb2), .val (.int pp), .val (.int vnA), .val (.int vnB), .val (.int vsf), .val (.ref bz4), .val (.ref bz18), .val (.ref bz45), .val (.int v17), .val (.int v18), .val (.int v19), .val (.int v20), .val (.int v21)] [(.int v21), (.int v19)]))
        refine OGo.st (fun _ k_ => XS.icmpNo X61.here hx rfl (hb hby at_334) rfl (XT.ii_ne_f (own_end1 q17 q18 q19 hvz78 hwC)) k_) ?_
        show OGo p.tables e below _ (T61.setTop (mkF m 337 #[.val (.int p1), .val (.int p2), .val (.int p3), .val (.int p4), .val (.int p5), .val (.int p6), .val (.int ra1), .val (.int ra2), .val (.int rb1), .val (.int rb2), .val (.int pp), .val (.int vnA), .val (.int vnB), .val (.int vsf), .val (.ref bz4), .val (.ref bz18), .val (.ref bz45), .val (.int v17), .val (.int v18), .val (.int v19), .val (.int v20), .val (.int v21)] []))
        refine OGo.st (fun _ k_ => XS.iload X61.here hx rfl (hb hby at_337) rfl k_) ?_
        show OGo p.tables e below _ (T61.setTop (mkF m 339 #[.val (.int p1), .val (.int p2), .val (.int p3), .val (.int p4), .val (.int p5), .val (.int p6), .val (.int ra1), .val (.int ra2), .val (.int rb1), .val (.int rb2), .val (.int pp), .val (.int vnA), .val (.int vnB), .val (.int vsf), .val (.ref bz4), .val (.ref bz18), .val (.ref bz45), .val (.int v17), .val (.int v18), .val (.int v19), .val (.int v20), .val (.int v21)] [(.int v20)]))
        refine OGo.st (fun _ k_ => XS.iload X61.here hx rfl (hb hby at_339) rfl k_) ?_
        show OGo p.tables e below _ (T61.setTop (mkF m 341 #[.val (.int p1), .val (.int p2), .val (.int p3), .val (.int p4), .val (.int p5), .val (.int p6), .val (.int ra1), .val (.int ra2), .val (.int rb1), .val (.int rb2), .val (.int pp), .val (.int vnA), .val (.int vnB), .val (.int vsf), .val (.ref bz4), .val (.ref bz18), .val (.ref bz45), .val (.int v17), .val (.int v18), .val (.int v19), .val (.int v20), .val (.int v21)] [(.int v18), (.int v20)]))
        refine OGo.st (fun _ k_ => XS.icmpNo X61.here hx rfl (hb hby at_341) rfl (XT.ii_ne_f (own_end2 q18 q20)) k_) ?_
        show OGo p.tables e below _ (T61.setTop (mkF m 344 #[.val (.int p1), .val (.int p2), .val (.int p3), .val (.int p4), .val (.int p5), .val (.int p6), .val (.int ra1), .val (.int ra2), .val (.int rb1), .val (.int rb2), .val (.int pp), .val (.int vnA), .val (.int vnB), .val (.int vsf), .val (.ref bz4), .val (.ref bz18), .val (.ref bz45), .val (.int v17), .val (.int v18), .val (.int v19), .val (.int v20), .val (.int v21)] []))
        refine OGo.st (fun _ k_ => XS.iconst X61.here hx rfl (hb hby at_344) k_) ?_
        show OGo p.tables e below _ (T61.setTop (mkF m 345 #[.val (.int p1), .val (.int p2), .val (.int p3), .val (.int p4), .val (.int p5), .val (.int p6), .val (.int ra1), .val (.int ra2), .val (.int rb1), .val (.int rb2), .val (.int pp), .val (.int vnA), .val (.int vnB), .val (.int vsf), .val (.ref bz4), .val (.ref bz18), .val (.ref bz45), .val (.int v17), .val (.int v18), .val (.int v19), .val (.int v20), .val (.int v21)] [(.int (1 : Int32))]))
        refine OGo.st (fun _ k_ => XS.goto X61.here hx rfl (pc0 := 345) (pc' := 349) rfl (hb hby at_345) (by decide) (by decide) k_) ?_
        show OGo p.tables e below _ (T61.setTop (mkF m 349 #[.val (.int p1), .val (.int p2), .val (.int p3), .val (.int p4), .val (.int p5), .val (.int p6), .val (.int ra1), .val (.int ra2), .val (.int rb1), .val (.int rb2), .val (.int pp), .val (.int vnA), .val (.int vnB), .val (.int vsf), .val (.ref bz4), .val (.ref bz18), .val (.ref bz45), .val (.int v17), .val (.int v18), .val (.int v19), .val (.int v20), .val (.int v21)] [(.int (1 : Int32))]))
        refine OGo.fin X61 (v := some (.int (1 : Int32))) (fun h => by rw [Bd.returns] at h; cases h) hlk (fun fs hr => X61.ireturnOut hx Bd.returns rfl (by simp) (hb hby at_349) hr) ?_ (by decide) (by decide)
        show own_Q_rm0 Z p1 p2 p3 p4 p5 p6 h0 n0 _ T61.heap _
        skip
        exact ⟨rfl, N61⟩
      show OGo p.tables e below _ (Tj43.setTop (mkF m 144 #[.val (.int p1), .val (.int p2), .val (.int p3), .val (.int p4), .val (.int p5), .val (.int p6), .val (.int ra1), .val (.int ra2), .val (.int rb1), .val (.int rb2), .val (.int pp), .val (.int vnA), .val (.int vnB), .val (.int vsf), .val (.ref bz4), .val (.ref bz18), .unset, .unset, .unset, .unset, .unset, .unset] []))
      refine OGo.st (fun _ k_ => XS.iload Xj43.here hx rfl (hb hby at_144) rfl k_) ?_
      show OGo p.tables e below _ (Tj43.setTop (mkF m 146 #[.val (.int p1), .val (.int p2), .val (.int p3), .val (.int p4), .val (.int p5), .val (.int p6), .val (.int ra1), .val (.int ra2), .val (.int rb1), .val (.int rb2), .val (.int pp), .val (.int vnA), .val (.int vnB), .val (.int vsf), .val (.ref bz4), .val (.ref bz18), .unset, .unset, .unset, .unset, .unset, .unset] [(.int vsf)]))
      by_cases hc146 : vsf = 0
      · refine OGo.st (fun _ k_ => XS.ifYes Xj43.here hx rfl (pc0 := 146) (pc' := 159) rfl (hb hby at_146) rfl (XT.i0_eq_t hc146) (by decide) (by decide) k_) ?_
        show OGo p.tables e below _ (Tj43.setTop (mkF m 159 #[.val (.int p1), .val (.int p2), .val (.int p3), .val (.int p4), .val (.int p5), .val (.int p6), .val (.int ra1), .val (.int ra2), .val (.int rb1), .val (.int rb2), .val (.int pp), .val (.int vnA), .val (.int vnB), .val (.int vsf), .val (.ref bz4), .val (.ref bz18), .unset, .unset, .unset, .unset, .unset, .unset] []))
        refine OGo.st (fun _ k_ => XS.aload Xj43.here hx rfl (hb hby at_159) rfl rfl k_) ?_
        show OGo p.tables e below _ (Tj43.setTop (mkF m 161 #[.val (.int p1), .val (.int p2), .val (.int p3), .val (.int p4), .val (.int p5), .val (.int p6), .val (.int ra1), .val (.int ra2), .val (.int rb1), .val (.int rb2), .val (.int pp), .val (.int vnA), .val (.int vnB), .val (.int vsf), .val (.ref bz4), .val (.ref bz18), .unset, .unset, .unset, .unset, .unset, .unset] [(.ref bz4)]))
        refine OGo.st (fun _ k_ => XS.aload Xj43.here hx rfl (hb hby at_161) rfl rfl k_) ?_
        show OGo p.tables e below _ (Tj43.setTop (mkF m 163 #[.val (.int p1), .val (.int p2), .val (.int p3), .val (.int p4), .val (.int p5), .val (.int p6), .val (.int ra1), .val (.int ra2), .val (.int rb1), .val (.int rb2), .val (.int pp), .val (.int vnA), .val (.int vnB), .val (.int vsf), .val (.ref bz4), .val (.ref bz18), .unset, .unset, .unset, .unset, .unset, .unset] [(.ref bz18), (.ref bz4)]))
        obtain ⟨cq79, kqz79, qz79a, qz79b, qz79c⟩ := isOf hZ ej43 f43_0
        obtain ⟨_, _, ⟨T79, Lz79, kz79, nz79⟩, -, X79, ⟨Lc79, hQ79, lz79, yz79, zz79⟩, st79⟩ := Xj43.virtualBack hx (y := (⟨"com/example/locator/locator/ByteSet", "addAll", "(Lcom/example/locator/locator/ByteSet;)V"⟩ : MethodName)) (z := (⟨"com/example/locator/locator/ByteSet", "addAll", "(Lcom/example/locator/locator/ByteSet;)V"⟩ : MethodName)) hown (mvT hZ (hw _ (List.mem_of_getElem? (i := 23) rfl))) (mvT hZ (hw _ (List.mem_of_getElem? (i := 24) rfl))) (notFace_of_selects (args := #[]) (mvT hZ (hw _ (List.mem_of_getElem? (i := 26) rfl)))) (mvT hZ (hw _ (List.mem_of_getElem? (i := 26) rfl))) (mvT hZ (hw _ (List.mem_of_getElem? (i := 25) rfl))) (by decide) (backOf (W := 0) (rm5 l Z a0 hw [] bz4 bz18 d6 kd6 wA d23 kd23 wB hj43 n0 (Nat.le_trans Z0 Kj43.1) f43_1 f43_2 g_d6 ne_bz4_d6 f43_4 f43_5 (Ne.symm (Nat.ne_of_lt lt_d6_bz18)) (Ne.symm ne_d6_d23)) hZ (hw _ (List.mem_of_getElem? (i := 27) rfl)) (hw _ (List.mem_of_getElem? (i := 2) rfl)) (by decide) (by decide)) qz79a qz79c (g := (mkF m 163 #[.val (.int p1), .val (.int p2), .val (.int p3), .val (.int p4), .val (.int p5), .val (.int p6), .val (.int ra1), .val (.int ra2), .val (.int rb1), .val (.int rb2), .val (.int pp), .val (.int vnA), .val (.int vnB), .val (.int vsf), .val (.ref bz4), .val (.ref bz18), .unset, .unset, .unset, .unset, .unset, .unset] [(.ref bz18), (.ref bz4)])) rfl (by rw [hml]; rfl) (Steps.refl _) (argsL := [(.ref bz18)]) (rest := []) (lenOf own_pd3 rfl) rfl (by show 2 * 0 + _ ≤ _; exact Nat.le_of_eq rfl) (hb hby at_163) (fun _ _ => ⟨rfl, ej43, (by decide : 4 + 0 ≤ _), (by decide : 10 + 0 ≤ _)⟩)
        dsimp only [Pt.U, Pt.locs, Pt.cells, Pt.slots] at X79 lz79 yz79 zz79 st79 hQ79
        subst lz79 yz79 zz79
        obtain ⟨rfl, Nq79, Kq79, Aq79⟩ := hQ79
        have N79 := Fr.app Nj43 Nq79
        have Ex_80 := f43_0.keep Kq79
        have F_81 := f43_1.keep Kq79 (ninS ne_bz4_d6 nin0)
        have Ex_82 := f43_3.keep Kq79
        have F_83 := f43_4.keep Kq79 (ninS (Ne.symm (Nat.ne_of_lt lt_d6_bz18)) nin0)
        have Af_84 := f43_5.keep Kq79 (ninS (Ne.symm ne_d6_d23) nin0)
        have K_85 : Keep h0 T79.heap [] := Kj43.trans Kq79 (allS (Or.inr sz_d6) all0)
        refine OGo.tr st79 ?_
        exact J166 T79 _ T79.heap (fun i => wA i ||| wB i) X79 rfl N79 K_85 Ex_80 F_81 Aq79 Ex_82 F_83 Af_84 (own_hC0 hc146)
      · refine OGo.st (fun _ k_ => XS.ifNo Xj43.here hx rfl (hb hby at_146) rfl (XT.i0_eq_f hc146) k_) ?_
        show OGo p.tables e below _ (Tj43.setTop (mkF m 149 #[.val (.int p1), .val (.int p2), .val (.int p3), .val (.int p4), .val (.int p5), .val (.int p6), .val (.int ra1), .val (.int ra2), .val (.int rb1), .val (.int rb2), .val (.int pp), .val (.int vnA), .val (.int vnB), .val (.int vsf), .val (.ref bz4), .val (.ref bz18), .unset, .unset, .unset, .unset, .unset, .unset] []))
        refine OGo.st (fun _ k_ => XS.aload Xj43.here hx rfl (hb hby at_149) rfl rfl k_) ?_
        show OGo p.tables e below _ (Tj43.setTop (mkF m 151 #[.val (.int p1), .val (.int p2), .val (.int p3), .val (.int p4), .val (.int p5), .val (.int p6), .val (.int ra1), .val (.int ra2), .val (.int rb1), .val (.int rb2), .val (.int pp), .val (.int vnA), .val (.int vnB), .val (.int vsf), .val (.ref bz4), .val (.ref bz18), .unset, .unset, .unset, .unset, .unset, .unset] [(.ref bz4)]))
        refine OGo.st (fun _ k_ => XS.aload Xj43.here hx rfl (hb hby at_151) rfl rfl k_) ?_
        show OGo p.tables e below _ (Tj43.setTop (mkF m 153 #[.val (.int p1), .val (.int p2), .val (.int p3), .val (.int p4), .val (.int p5), .val (.int p6), .val (.int ra1), .val (.int ra2), .val (.int rb1), .val (.int rb2), .val (.int pp), .val (.int vnA), .val (.int vnB), .val (.int vsf), .val (.ref bz4), .val (.ref bz18), .unset, .unset, .unset, .unset, .unset, .unset] [(.ref bz4), (.ref bz4)]))
        obtain ⟨cq86, kqz86, qz86a, qz86b, qz86c⟩ := isOf hZ ej43 f43_0
        obtain ⟨_, _, ⟨T86, Lz86, kz86, nz86⟩, -, X86, ⟨Lc86, hQ86, lz86, yz86, zz86⟩, st86⟩ := Xj43.virtualBack hx (y := (⟨"com/example/locator/locator/ByteSet", "addAll", "(Lcom/example/locator/locator/ByteSet;)V"⟩ : MethodName)) (z := (⟨"com/example/locator/locator/ByteSet", "addAll", "(Lcom/example/locator/locator/ByteSet;)V"⟩ : MethodName)) hown (mvT hZ (hw _ (List.mem_of_getElem? (i := 23) rfl))) (mvT hZ (hw _ (List.mem_of_getElem? (i := 24) rfl))) (notFace_of_selects (args := #[]) (mvT hZ (hw _ (List.mem_of_getElem? (i := 26) rfl)))) (mvT hZ (hw _ (List.mem_of_getElem? (i := 26) rfl))) (mvT hZ (hw _ (List.mem_of_getElem? (i := 25) rfl))) (by decide) (backOf (W := 0) (rm4 l Z a0 hw [] bz4 d6 kd6 wA hj43 n0 (Nat.le_trans Z0 Kj43.1) f43_1 f43_2 g_d6 ne_bz4_d6) hZ (hw _ (List.mem_of_getElem? (i := 27) rfl)) (hw _ (List.mem_of_getElem? (i := 2) rfl)) (by decide) (by decide)) qz86a qz86c (g := (mkF m 153 #[.val (.int p1), .val (.int p2), .val (.int p3), .val (.int p4), .val (.int p5), .val (.int p6), .val (.int ra1), .val (.int ra2), .val (.int rb1), .val (.int rb2), .val (.int pp), .val (.int vnA), .val (.int vnB), .val (.int vsf), .val (.ref bz4), .val (.ref bz18), .unset, .unset, .unset, .unset, .unset, .unset] [(.ref bz4), (.ref bz4)])) rfl (by rw [hml]; rfl) (Steps.refl _) (argsL := [(.ref bz4)]) (rest := []) (lenOf own_pd3 rfl) rfl (by show 2 * 0 + _ ≤ _; exact Nat.le_of_eq rfl) (hb hby at_153) (fun _ _ => ⟨rfl, ej43, (by decide : 4 + 0 ≤ _), (by decide : 10 + 0 ≤ _)⟩)
        dsimp only [Pt.U, Pt.locs, Pt.cells, Pt.slots] at X86 lz86 yz86 zz86 st86 hQ86
        subst lz86 yz86 zz86
        obtain ⟨rfl, Nq86, Kq86, Aq86⟩ := hQ86
        have N86 := Fr.app Nj43 Nq86
        have Ex_87 := f43_0.keep Kq86
        have F_88 := f43_1.keep Kq86 (ninS ne_bz4_d6 nin0)
        have Ex_89 := f43_3.keep Kq86
        have F_90 := f43_4.keep Kq86 (ninS (Ne.symm (Nat.ne_of_lt lt_d6_bz18)) nin0)
        have Af_91 := f43_5.keep Kq86 (ninS (Ne.symm ne_d6_d23) nin0)
        have K_92 : Keep h0 T86.heap [] := Kj43.trans Kq86 (allS (Or.inr sz_d6) all0)
        refine OGo.tr st86 ?_
        show OGo p.tables e below _ (T86.setTop (mkF m 156 #[.val (.int p1), .val (.int p2), .val (.int p3), .val (.int p4), .val (.int p5), .val (.int p6), .val (.int ra1), .val (.int ra2), .val (.int rb1), .val (.int rb2), .val (.int pp), .val (.int vnA), .val (.int vnB), .val (.int vsf), .val (.ref bz4), .val (.ref bz18), .unset, .unset, .unset, .unset, .unset, .unset] []))
        refine OGo.st (fun _ k_ => XS.goto X86.here hx rfl (pc0 := 156) (pc' := 166) rfl (hb hby at_156) (by decide) (by decide) k_) ?_
        exact J166 T86 _ T86.heap wA X86 rfl N86 K_92 Ex_87 F_88 Aq86 Ex_89 F_90 Af_91 (own_hC1 hc146)
    show OGo p.tables e below _ (T36.setTop (mkF m 134 #[.val (.int p1), .val (.int p2), .val (.int p3), .val (.int p4), .val (.int p5), .val (.int p6), .val (.int ra1), .val (.int ra2), .val (.int rb1), .val (.int rb2), .val (.int pp), .val (.int vnA), .val (.int vnB), .val (.int vsf), .val (.ref bz4), .val (.ref bz18), .unset, .unset, .unset, .unset, .unset, .unset] []))
    refine OGo.st (fun _ k_ => XS.iload X36.here hx rfl (hb hby at_134) rfl k_) ?_
    show OGo p.tables e below _ (T36.setTop (mkF m 136 #[.val (.int p1), .val (.int p2), .val (.int p3), .val (.int p4), .val (.int p5), .val (.int p6), .val (.int ra1), .val (.int ra2), .val (.int rb1), .val (.int rb2), .val (.int pp), .val (.int vnA), .val (.int vnB), .val (.int vsf), .val (.ref bz4), .val (.ref bz18), .unset, .unset, .unset, .unset, .unset, .unset] [(.int vnB)]))
    by_cases hc136 : vnB = 0
    · refine OGo.st (fun _ k_ => XS.ifYes X36.here hx rfl (pc0 := 136) (pc' := 144) rfl (hb hby at_136) rfl (XT.i0_eq_t hc136) (by decide) (by decide) k_) ?_
      exact J144 T36 _ T36.heap (own_add (own_add (fun _ => 0) rb1) rb2) X36 rfl N36 K_42 Ex_37 F_38 Af_39 Ex_40 F_41 Aq36 (own_hA0 hc136 hpp_ hrb1_ hrb2_)
    · refine OGo.st (fun _ k_ => XS.ifNo X36.here hx rfl (hb hby at_136) rfl (XT.i0_eq_f hc136) k_) ?_
      show OGo p.tables e below _ (T36.setTop (mkF m 139 #[.val (.int p1), .val (.int p2), .val (.int p3), .val (.int p4), .val (.int p5), .val (.int p6), .val (.int ra1), .val (.int ra2), .val (.int rb1), .val (.int rb2), .val (.int pp), .val (.int vnA), .val (.int vnB), .val (.int vsf), .val (.ref bz4), .val (.ref bz18), .unset, .unset, .unset, .unset, .unset, .unset] []))
      refine OGo.st (fun _ k_ => XS.aload X36.here hx rfl (hb hby at_139) rfl rfl k_) ?_
      show OGo p.tables e below _ (T36.setTop (mkF m 141 #[.val (.int p1), .val (.int p2), .val (.int p3), .val (.int p4), .val (.int p5), .val (.int p6), .val (.int ra1), .val (.int ra2), .val (.int rb1), .val (.int rb2), .val (.int pp), .val (.int vnA), .val (.int vnB), .val (.int vsf), .val (.ref bz4), .val (.ref bz18), .unset, .unset, .unset, .unset, .unset, .unset] [(.ref bz18)]))
      obtain ⟨cq93, kqz93, qz93a, qz93b, qz93c⟩ := isOf hZ rfl Ex_40
      obtain ⟨_, _, ⟨T93, Lz93, kz93, nz93⟩, -, X93, ⟨Lc93, hQ93, lz93, yz93, zz93⟩, st93⟩ := X36.virtualBack hx (y := (⟨"com/example/locator/locator/ByteSet", "negate", "()V"⟩ : MethodName)) (z := (⟨"com/example/locator/locator/ByteSet", "negate", "()V"⟩ : MethodName)) hown (mvT hZ (hw _ (List.mem_of_getElem? (i := 17) rfl))) (mvT hZ (hw _ (List.mem_of_getElem? (i := 18) rfl))) (notFace_of_selects (args := #[]) (mvT hZ (hw _ (List.mem_of_getElem? (i := 20) rfl)))) (mvT hZ (hw _ (List.mem_of_getElem? (i := 20) rfl))) (mvT hZ (hw _ (List.mem_of_getElem? (i := 19) rfl))) (by decide) (backOf (W := 0) (rm3 l Z a0 hw [] bz18 d23 kd23 (own_add (own_add (fun _ => 0) rb1) rb2) T36.heap n0 (Nat.le_trans Z0 K_42.1) F_41 Aq36 g_d23 ne_bz18_d23) hZ (hw _ (List.mem_of_getElem? (i := 21) rfl)) (hw _ (List.mem_of_getElem? (i := 2) rfl)) (by decide) (by decide)) qz93a qz93c (g := (mkF m 141 #[.val (.int p1), .val (.int p2), .val (.int p3), .val (.int p4), .val (.int p5), .val (.int p6), .val (.int ra1), .val (.int ra2), .val (.int rb1), .val (.int rb2), .val (.int pp), .val (.int vnA), .val (.int vnB), .val (.int vsf), .val (.ref bz4), .val (.ref bz18), .unset, .unset, .unset, .unset, .unset, .unset] [(.ref bz18)])) rfl (by rw [hml]; rfl) (Steps.refl _) (argsL := []) (rest := []) (lenOf own_pd0 rfl) rfl (by show 2 * 0 + _ ≤ _; exact Nat.le_of_eq rfl) (hb hby at_141) (fun _ _ => ⟨rfl, rfl, (by decide : 4 + 0 ≤ _), (by decide : 10 + 0 ≤ _)⟩)
      dsimp only [Pt.U, Pt.locs, Pt.cells, Pt.slots] at X93 lz93 yz93 zz93 st93 hQ93
      subst lz93 yz93 zz93
      obtain ⟨rfl, Nq93, Kq93, Aq93⟩ := hQ93
      have N93 := Fr.app N36 Nq93
      have Ex_94 := Ex_37.keep Kq93
      have F_95 := F_38.keep Kq93 (ninS ne_bz4_d23 nin0)
      have Af_96 := Af_39.keep Kq93 (ninS ne_d6_d23 nin0)
      have Ex_97 := Ex_40.keep Kq93
      have F_98 := F_41.keep Kq93 (ninS ne_bz18_d23 nin0)
      have K_99 : Keep h0 T93.heap [] := K_42.trans Kq93 (allS (Or.inr sz_d23) all0)
      refine OGo.tr st93 ?_
      exact J144 T93 _ T93.heap (fun i => (own_add (own_add (fun _ => 0) rb1) rb2) i ^^^ (-1 : Int64)) X93 rfl N93 K_99 Ex_94 F_95 Af_96 Ex_97 F_98 Aq93 (own_hA1 hc136 hpp_ hrb1_ hrb2_)
  show OGo p.tables e below _ (T13.setTop (mkF m 101 #[.val (.int p1), .val (.int p2), .val (.int p3), .val (.int p4), .val (.int p5), .val (.int p6), .val (.int ra1), .val (.int ra2), .val (.int rb1), .val (.int rb2), .val (.int pp), .val (.int vnA), .val (.int vnB), .val (.int vsf), .val (.ref bz4), .unset, .unset, .unset, .unset, .unset, .unset, .unset] []))
  refine OGo.st (fun _ k_ => XS.iload X13.here hx rfl (hb hby at_101) rfl k_) ?_
  show OGo p.tables e below _ (T13.setTop (mkF m 103 #[.val (.int p1), .val (.int p2), .val (.int p3), .val (.int p4), .val (.int p5), .val (.int p6), .val (.int ra1), .val (.int ra2), .val (.int rb1), .val (.int rb2), .val (.int pp), .val (.int vnA), .val (.int vnB), .val (.int vsf), .val (.ref bz4), .unset, .unset, .unset, .unset, .unset, .unset, .unset] [(.int vnA)]))
  by_cases hc103 : vnA = 0
  · refine OGo.st (fun _ k_ => XS.ifYes X13.here hx rfl (pc0 := 103) (pc' := 111) rfl (hb hby at_103) rfl (XT.i0_eq_t hc103) (by decide) (by decide) k_) ?_
    exact J111 T13 _ T13.heap (own_add (own_add (fun _ => 0) ra1) ra2) X13 rfl N13 K_16 Ex_14 F_15 Aq13 (own_hA0 hc103 hpp_ hra1_ hra2_)
  · refine OGo.st (fun _ k_ => XS.ifNo X13.here hx rfl (hb hby at_103) rfl (XT.i0_eq_f hc103) k_) ?_
    show OGo p.tables e below _ (T13.setTop (mkF m 106 #[.val (.int p1), .val (.int p2), .val (.int p3), .val (.int p4), .val (.int p5), .val (.int p6), .val (.int ra1), .val (.int ra2), .val (.int rb1), .val (.int rb2), .val (.int pp), .val (.int vnA), .val (.int vnB), .val (.int vsf), .val (.ref bz4), .unset, .unset, .unset, .unset, .unset, .unset, .unset] []))
    refine OGo.st (fun _ k_ => XS.aload X13.here hx rfl (hb hby at_106) rfl rfl k_) ?_
    show OGo p.tables e below _ (T13.setTop (mkF m 108 #[.val (.int p1), .val (.int p2), .val (.int p3), .val (.int p4), .val (.int p5), .val (.int p6), .val (.int ra1), .val (.int ra2), .val (.int rb1), .val (.int rb2), .val (.int pp), .val (.int vnA), .val (.int vnB), .val (.int vsf), .val (.ref bz4), .unset, .unset, .unset, .unset, .unset, .unset, .unset] [(.ref bz4)]))
    obtain ⟨cq100, kqz100, qz100a, qz100b, qz100c⟩ := isOf hZ rfl Ex_14
    obtain ⟨_, _, ⟨T100, Lz100, kz100, nz100⟩, -, X100, ⟨Lc100, hQ100, lz100, yz100, zz100⟩, st100⟩ := X13.virtualBack hx (y := (⟨"com/example/locator/locator/ByteSet", "negate", "()V"⟩ : MethodName)) (z := (⟨"com/example/locator/locator/ByteSet", "negate", "()V"⟩ : MethodName)) hown (mvT hZ (hw _ (List.mem_of_getElem? (i := 17) rfl))) (mvT hZ (hw _ (List.mem_of_getElem? (i := 18) rfl))) (notFace_of_selects (args := #[]) (mvT hZ (hw _ (List.mem_of_getElem? (i := 20) rfl)))) (mvT hZ (hw _ (List.mem_of_getElem? (i := 20) rfl))) (mvT hZ (hw _ (List.mem_of_getElem? (i := 19) rfl))) (by decide) (backOf (W := 0) (rm3 l Z a0 hw [] bz4 d6 kd6 (own_add (own_add (fun _ => 0) ra1) ra2) T13.heap n0 (Nat.le_trans Z0 K_16.1) F_15 Aq13 g_d6 ne_bz4_d6) hZ (hw _ (List.mem_of_getElem? (i := 21) rfl)) (hw _ (List.mem_of_getElem? (i := 2) rfl)) (by decide) (by decide)) qz100a qz100c (g := (mkF m 108 #[.val (.int p1), .val (.int p2), .val (.int p3), .val (.int p4), .val (.int p5), .val (.int p6), .val (.int ra1), .val (.int ra2), .val (.int rb1), .val (.int rb2), .val (.int pp), .val (.int vnA), .val (.int vnB), .val (.int vsf), .val (.ref bz4), .unset, .unset, .unset, .unset, .unset, .unset, .unset] [(.ref bz4)])) rfl (by rw [hml]; rfl) (Steps.refl _) (argsL := []) (rest := []) (lenOf own_pd0 rfl) rfl (by show 2 * 0 + _ ≤ _; exact Nat.le_of_eq rfl) (hb hby at_108) (fun _ _ => ⟨rfl, rfl, (by decide : 2 + 0 ≤ _), (by decide : 5 + 0 ≤ _)⟩)
    dsimp only [Pt.U, Pt.locs, Pt.cells, Pt.slots] at X100 lz100 yz100 zz100 st100 hQ100
    subst lz100 yz100 zz100
    obtain ⟨rfl, Nq100, Kq100, Aq100⟩ := hQ100
    have N100 := Fr.app N13 Nq100
    have Ex_101 := Ex_14.keep Kq100
    have F_102 := F_15.keep Kq100 (ninS ne_bz4_d6 nin0)
    have K_103 : Keep h0 T100.heap [] := K_16.trans Kq100 (allS (Or.inr sz_d6) all0)
    refine OGo.tr st100 ?_
    exact J111 T100 _ T100.heap (fun i => (own_add (own_add (fun _ => 0) ra1) ra2) i ^^^ (-1 : Int64)) X100 rfl N100 K_103 Ex_101 F_102 Aq100 (own_hA1 hc103 hpp_ hra1_ hra2_)
set_option maxRecDepth 65536 in
set_option maxHeartbeats 40000000 in
theorem comes_1 {Post : Tables → Env → Array Value → State → Outcome → State → Prop} (hpost : ∀ tb e args s v u, (limb_1_1.after args s (.returned v) u = true ∧ limb_1_2.after args s (.returned v) u = true ∧ True) → FrameEnd s (.returned v) u (Jvm.fieldLocs frame_1_writes args s ++ Jvm.arrayLocs frame_1_arrays args s ++ Jvm.staticLocs frame_1_statics s) 24 128 → Post tb e args s (.returned v) u) :
    ArmFor flags0 classFile x code maxLocals ret World_1 tables_1 room_1 Calls_1 rest_1 Pre_1 Post := by
  intro l hfl _ _ p e ha hc hk s m args below hf hA hF happ hP
  obtain ⟨hcalls, hrest, hpre⟩ := hP
  obtain ⟨-, -, -, hnamed, -, -, -, hat⟩ := (Spec.applies_iff hf).mp happ
  obtain ⟨hg, hn⟩ := and_e (Cond.before_iff.mp (show (Jvm.Cond.and given_1 narrow_1).before args s = true from hpre))
  obtain ⟨g0, r0⟩ := and_e hg
  obtain ⟨a0, r1⟩ := and_e r0
  obtain ⟨a1, r2⟩ := and_e r1
  obtain ⟨a2, r3⟩ := and_e r2
  obtain ⟨a3, r4⟩ := and_e r3
  obtain ⟨a4, r5⟩ := and_e r4
  obtain ⟨w0, w1, w2, w3, w4, w5, rfl⟩ : ∃ w0 w1 w2 w3 w4 w5 : Value, args = #[w0, w1, w2, w3, w4, w5] := by
    have hs : args.size = 6 := by simpa [Cond.value, given_1] using g0
    obtain ⟨L⟩ := args
    match L, hs with
    | [w0, w1, w2, w3, w4, w5], _ => exact ⟨w0, w1, w2, w3, w4, w5, rfl⟩
  have hw := fun d (hd : d ∈ tables_1) => atoms_spec (ws := Jvm.Cond.code x code maxLocals ret :: tables_1) hat d (List.mem_cons_of_mem _ hd)
  have hfit : Fit s := fun {y c} hc i hi => by
    obtain ⟨ha, rfl⟩ := Array.getElem?_eq_some_iff.mp hc
    have q := List.all_eq_true.mp ((Array.all_eq_true_iff_forall_mem.mp hF) _ (Array.getElem_mem ha)) i (List.mem_range.mpr hi)
    simpa [Array.getElem?_eq_getElem hi] using q
  obtain ⟨i0, ei0⟩ := is_v a0
  obtain rfl : w0 = (.int i0) := Option.some.inj ei0
  obtain ⟨i1, ei1⟩ := is_v a1
  obtain rfl : w1 = (.int i1) := Option.some.inj ei1
  obtain ⟨i2, ei2⟩ := is_v a2
  obtain rfl : w2 = (.int i2) := Option.some.inj ei2
  obtain ⟨i3, ei3⟩ := is_v a3
  obtain rfl : w3 = (.int i3) := Option.some.inj ei3
  obtain ⟨i4, ei4⟩ := is_v a4
  obtain rfl : w4 = (.int i4) := Option.some.inj ei4
  obtain ⟨i5, ei5⟩ := is_v r5
  obtain rfl : w5 = (.int i5) := Option.some.inj ei5
  obtain ⟨n, o, h1, h2, h3, _, L, rfl, ⟨rfl, N⟩, hq⟩ := rm0 l s _ hw tables_1 i0 i1 i2 i3 i4 i5  s.heap s.heap.size (Nat.le_refl _)  p e ha hc hk s m _ below hf ((Spec.applies_iff_loose hf).mp happ).1 ⟨rfl, State.Warmed39.refl s, rfl⟩ trivial
  refine ⟨n, _, h1, h2, h3, hpost _ _ _ _ _ _ ⟨Cond.after_iff.mpr rfl, Cond.after_iff.mpr (eq_i res_at (Term.int_eval (1)) rfl), trivial⟩ ⟨hq.1, hq.2.1, (hq.2.2.sift fun y hy => Or.inr (N y hy)).mono (by decide) (by decide)⟩⟩
theorem main_1_1 : Claimed_1_1 := comes_1 fun _ _ _ _ _ _ h hF => ⟨h.1, hF⟩
theorem main_1_2 : Claimed_1_2 := comes_1 fun _ _ _ _ _ _ h hF => ⟨h.2.1, hF⟩
end Jvm.Pilot.@@N@@
namespace Jvm.Pilot.@@N@@
open Jvm Jvm.ClassFile Sem Op Lib Jvm.Free Jvm.Stand Jvm.Pilot.@@N@@.Jvm.D
/-! MADE BY PROGRAM (witnessworld.py) out of the Statement's table words and the real class files: 12 classes; the members and pool entries that the words name. The judged class is class 1, her method 1. -/
namespace start1
open Jvm.ClassFile
def u (s : String) : CpInfo := .utf8 (stringToUtf16 s)
/-- a pool by its gaps: so many unusable entries, then the entry; so many at the end -/
def gap : Nat → List CpInfo → List CpInfo
  | 0, r => r
  | n + 1, r => .unusable :: gap n r
def poolList (es : List (Nat × CpInfo)) (last : Nat) : List CpInfo := es.foldr (fun e r => gap e.1 (e.2 :: r)) (gap last [])
def pool (es : List (Nat × CpInfo)) (last : Nat) : Array CpInfo := ⟨poolList es last⟩
def fileOf (pool : Array CpInfo) (this : Nat) (attrs : Array Attribute := #[]) (ms : Array MethodInfo := #[]) (fl : Nat := 33) (sup : Nat := 0) (ifs : Array Nat := #[]) (fds : Array FieldInfo := #[]) : ClassFile where
  minorVersion := 0
  majorVersion := 65
  constantPool := pool
  accessFlags := fl
  thisClass := this
  superClass := sup
  interfaces := ifs
  fields := fds
  methods := ms
  attributes := attrs
def plain (name : String) (sup : Option ClassId) : Class where
  name := name
  kind := .ordinary
  loader := none
  accessFlags := 33
  super := sup
  interfaces := #[]
  cf := none
  fields := #[]
  methods := #[]
  instanceTypes := #[]
  staticTypes := #[]
  resolved := #[]
  callSites := []
  init := .initialized
  statics := none
  mirror := none

def pool0 : Array CpInfo := pool [(5, u "<init>"), (0, u "()V"), (1, .class_ 10), (1, u "java/lang/Object")] 113

def k0c0 : Code := { maxStack := 0, maxLocals := 1, code := object_method_1_code, exceptionTable := #[], attributes := #[] }
def k0m0 : Method := { name := "<init>", desc := "()V", sig := { parameters := [], returnType := none }, accessFlags := 1, code := some k0c0 }
/-- java/lang/Object -/
def k0 : Class := { plain "java/lang/Object" none with
  accessFlags := 33
  interfaces := #[]
  cf := some (fileOf pool0 8 #[] #[{ accessFlags := 1, nameIndex := 5, descriptorIndex := 6, attributes := #[] }] 33 0 #[] #[])
  fields := #[]
  methods := #[k0m0]
  instanceTypes := #[]
  staticTypes := #[]
  resolved := Array.replicate 124 none
  statics := none }

def pool1 : Array CpInfo := pool [(2, .class_ 4), (0, .nameAndType 5 6), (0, u "java/lang/Object"), (0, u "<init>"), (0, u "()V"), (0, .class_ 8), (0, u "com/example/locator/locator/ByteSet"), (0, .methodref 7 3), (0, .methodref 7 11), (0, .nameAndType 12 13), (0, u "add"), (0, u "(I)V"), (0, .methodref 7 15), (0, .nameAndType 16 6), (0, u "negate"), (0, .methodref 7 18), (0, .nameAndType 19 20), (0, u "addAll"), (0, u "(Lcom/example/locator/locator/ByteSet;)V"), (0, .methodref 7 22), (0, .nameAndType 23 24), (0, u "copyTo"), (0, u "([JI)V"), (0, .class_ 26), (0, u "com/example/locator/locator/ByteSetAddAllPinLaw"), (2, u "law"), (0, u "(IIIIII)Z")] 5

def k1m0 : Method := { name := "<init>", desc := "()V", sig := { parameters := [], returnType := none }, accessFlags := 1, code := none }
def k1c1 : Code := { maxStack := 4, maxLocals := 22, code := code, exceptionTable := #[], attributes := #[] }
def k1m1 : Method := { name := "law", desc := "(IIIIII)Z", sig := { parameters := [.int, .int, .int, .int, .int, .int], returnType := some .boolean }, accessFlags := 9, code := some k1c1 }
/-- com/example/locator/locator/ByteSetAddAllPinLaw -/
def k1 : Class := { plain "com/example/locator/locator/ByteSetAddAllPinLaw" (some 0) with
  accessFlags := 49
  interfaces := #[]
  cf := some (fileOf pool1 25 #[] #[{ accessFlags := 1, nameIndex := 5, descriptorIndex := 6, attributes := #[] }, { accessFlags := 9, nameIndex := 29, descriptorIndex := 30, attributes := #[] }] 49 2 #[] #[])
  fields := #[]
  methods := #[k1m0, k1m1]
  instanceTypes := #[]
  staticTypes := #[]
  resolved := Array.replicate 36 none
  statics := none }

def pool2 : Array CpInfo := pool [(1, .methodref 2 3), (0, .class_ 4), (0, .nameAndType 5 6), (0, u "java/lang/Object"), (0, u "<init>"), (0, u "()V"), (0, .fieldref 8 9), (0, .class_ 10), (0, .nameAndType 11 12), (0, u "com/example/locator/locator/ByteSet"), (0, u "words"), (0, u "[J"), (3, u "add"), (0, u "(I)V"), (44, .long 18446744073709551615), (1, .methodref 65 66), (0, .class_ 67), (0, .nameAndType 68 69), (0, u "java/lang/System"), (0, u "arraycopy"), (0, u "(Ljava/lang/Object;ILjava/lang/Object;II)V"), (16, u "addAll"), (0, u "(Lcom/example/locator/locator/ByteSet;)V"), (0, u "negate"), (0, u "copyTo"), (0, u "([JI)V")] 2

def k2c0 : Code := { maxStack := 2, maxLocals := 1, code := prog_22_method_1_code, exceptionTable := #[], attributes := #[] }
def k2m0 : Method := { name := "<init>", desc := "()V", sig := { parameters := [], returnType := none }, accessFlags := 0, code := some k2c0 }
def k2c1 : Code := { maxStack := 7, maxLocals := 2, code := prog_22_method_6_code, exceptionTable := #[], attributes := #[] }
def k2m1 : Method := { name := "add", desc := "(I)V", sig := { parameters := [.int], returnType := none }, accessFlags := 0, code := some k2c1 }
def k2c2 : Code := { maxStack := 6, maxLocals := 3, code := prog_22_method_8_code, exceptionTable := #[], attributes := #[] }
def k2m2 : Method := { name := "addAll", desc := "(Lcom/example/locator/locator/ByteSet;)V", sig := { parameters := [(.object "com/example/locator/locator/ByteSet")], returnType := none }, accessFlags := 0, code := some k2c2 }
def k2c3 : Code := { maxStack := 6, maxLocals := 2, code := prog_22_method_9_code, exceptionTable := #[], attributes := #[] }
def k2m3 : Method := { name := "negate", desc := "()V", sig := { parameters := [], returnType := none }, accessFlags := 0, code := some k2c3 }
def k2c4 : Code := { maxStack := 5, maxLocals := 3, code := prog_22_method_11_code, exceptionTable := #[], attributes := #[] }
def k2m4 : Method := { name := "copyTo", desc := "([JI)V", sig := { parameters := [(.array .long), .int], returnType := none }, accessFlags := 0, code := some k2c4 }
/-- com/example/locator/locator/ByteSet -/
def k2 : Class := { plain "com/example/locator/locator/ByteSet" (some 0) with
  accessFlags := 48
  interfaces := #[]
  cf := some (fileOf pool2 8 #[] #[{ accessFlags := 0, nameIndex := 5, descriptorIndex := 6, attributes := #[] }, { accessFlags := 0, nameIndex := 16, descriptorIndex := 17, attributes := #[] }, { accessFlags := 0, nameIndex := 86, descriptorIndex := 87, attributes := #[] }, { accessFlags := 0, nameIndex := 88, descriptorIndex := 6, attributes := #[] }, { accessFlags := 0, nameIndex := 89, descriptorIndex := 90, attributes := #[] }] 48 2 #[] #[{ accessFlags := 18, nameIndex := 11, descriptorIndex := 12, attributes := #[] }])
  fields := #[{ name := "words", type := (.array .long), accessFlags := 18, slot := 0, constantValue := 0 }]
  methods := #[k2m0, k2m1, k2m2, k2m3, k2m4]
  instanceTypes := #[(.array .long)]
  staticTypes := #[]
  resolved := Array.replicate 93 none
  statics := none }

def pool3 : Array CpInfo := pool [(2, .class_ 4), (1, u "java/lang/Object"), (0, u "<init>"), (0, u "()V"), (1, .class_ 10), (1, u "java/lang/System"), (0, u "allowSecurityManager"), (0, u "I"), (16, u "cons"), (0, u "Ljava/io/Console;"), (77, .class_ 110), (1, u "java/lang/System$CallersHolder"), (43, u "initialErrStream"), (0, u "Ljava/io/PrintStream;"), (19, u "security"), (0, u "Ljava/lang/SecurityManager;"), (31, .class_ 209), (0, u "java/lang/System$1"), (7, u "props"), (0, u "Ljava/util/Properties;"), (2, u "lineSeparator"), (0, u "Ljava/lang/String;"), (96, .class_ 321), (1, u "java/lang/System$LoggerFinder"), (5, .class_ 328), (0, u "java/lang/System$Logger"), (67, u "err"), (2, u "out"), (91, u "notSupportedJnuEncoding"), (15, u "in"), (17, u "initialIn"), (0, u "Ljava/io/InputStream;"), (35, u "bootLayer"), (0, u "Ljava/lang/ModuleLayer;"), (99, .class_ 664), (0, u "java/lang/System$2"), (9, u "NEVER"), (2, u "MAYBE"), (49, u "arraycopy"), (0, u "(Ljava/lang/Object;ILjava/lang/Object;II)V"), (72, .class_ 802), (0, u "java/lang/System$Logger$Level")] 31

def k3m0 : Method := { name := "<init>", desc := "()V", sig := { parameters := [], returnType := none }, accessFlags := 2, code := none }
def k3m1 : Method := { name := "arraycopy", desc := "(Ljava/lang/Object;ILjava/lang/Object;II)V", sig := { parameters := [(.object "java/lang/Object"), .int, (.object "java/lang/Object"), .int, .int], returnType := none }, accessFlags := 265, code := none }
/-- java/lang/System -/
def k3 : Class := { plain "java/lang/System" (some 0) with
  accessFlags := 49
  interfaces := #[]
  cf := some (fileOf pool3 8 #[.nestMembers #[319, 327, 801, 108, 663, 208]] #[{ accessFlags := 2, nameIndex := 5, descriptorIndex := 6, attributes := #[] }, { accessFlags := 265, nameIndex := 727, descriptorIndex := 728, attributes := #[] }] 49 2 #[] #[{ accessFlags := 25, nameIndex := 507, descriptorIndex := 526, attributes := #[] }, { accessFlags := 25, nameIndex := 399, descriptorIndex := 155, attributes := #[] }, { accessFlags := 25, nameIndex := 396, descriptorIndex := 155, attributes := #[] }, { accessFlags := 10, nameIndex := 525, descriptorIndex := 526, attributes := #[] }, { accessFlags := 26, nameIndex := 674, descriptorIndex := 12, attributes := #[] }, { accessFlags := 26, nameIndex := 677, descriptorIndex := 12, attributes := #[] }, { accessFlags := 10, nameIndex := 11, descriptorIndex := 12, attributes := #[] }, { accessFlags := 74, nameIndex := 175, descriptorIndex := 176, attributes := #[] }, { accessFlags := 10, nameIndex := 491, descriptorIndex := 222, attributes := #[] }, { accessFlags := 74, nameIndex := 29, descriptorIndex := 30, attributes := #[] }, { accessFlags := 74, nameIndex := 154, descriptorIndex := 155, attributes := #[] }, { accessFlags := 10, nameIndex := 217, descriptorIndex := 218, attributes := #[] }, { accessFlags := 10, nameIndex := 221, descriptorIndex := 222, attributes := #[] }, { accessFlags := 8, nameIndex := 562, descriptorIndex := 563, attributes := #[] }])
  fields := #[{ name := "in", type := (.object "java/io/InputStream"), accessFlags := 25, slot := 0, constantValue := 0 }, { name := "out", type := (.object "java/io/PrintStream"), accessFlags := 25, slot := 1, constantValue := 0 }, { name := "err", type := (.object "java/io/PrintStream"), accessFlags := 25, slot := 2, constantValue := 0 }, { name := "initialIn", type := (.object "java/io/InputStream"), accessFlags := 10, slot := 3, constantValue := 0 }, { name := "NEVER", type := .int, accessFlags := 26, slot := 4, constantValue := 0 }, { name := "MAYBE", type := .int, accessFlags := 26, slot := 5, constantValue := 0 }, { name := "allowSecurityManager", type := .int, accessFlags := 10, slot := 6, constantValue := 0 }, { name := "security", type := (.object "java/lang/SecurityManager"), accessFlags := 74, slot := 7, constantValue := 0 }, { name := "notSupportedJnuEncoding", type := (.object "java/lang/String"), accessFlags := 10, slot := 8, constantValue := 0 }, { name := "cons", type := (.object "java/io/Console"), accessFlags := 74, slot := 9, constantValue := 0 }, { name := "initialErrStream", type := (.object "java/io/PrintStream"), accessFlags := 74, slot := 10, constantValue := 0 }, { name := "props", type := (.object "java/util/Properties"), accessFlags := 10, slot := 11, constantValue := 0 }, { name := "lineSeparator", type := (.object "java/lang/String"), accessFlags := 10, slot := 12, constantValue := 0 }, { name := "bootLayer", type := (.object "java/lang/ModuleLayer"), accessFlags := 8, slot := 13, constantValue := 0 }]
  methods := #[k3m0, k3m1]
  instanceTypes := #[]
  staticTypes := #[(.object "java/io/InputStream"), (.object "java/io/PrintStream"), (.object "java/io/PrintStream"), (.object "java/io/InputStream"), .int, .int, .int, (.object "java/lang/SecurityManager"), (.object "java/lang/String"), (.object "java/io/Console"), (.object "java/io/PrintStream"), (.object "java/util/Properties"), (.object "java/lang/String"), (.object "java/lang/ModuleLayer")]
  resolved := Array.replicate 834 none
  statics := none }

def pool4 : Array CpInfo := pool [(1, u "java/lang/Cloneable"), (0, .class_ 1), (0, u "java/lang/Object"), (0, .class_ 3)] 3

/-- java/lang/Cloneable -/
def k4 : Class := { plain "java/lang/Cloneable" (some 0) with
  accessFlags := 1537
  interfaces := #[]
  cf := some (fileOf pool4 2 #[] #[] 1537 4 #[] #[])
  fields := #[]
  methods := #[]
  instanceTypes := #[]
  staticTypes := #[]
  resolved := Array.replicate 8 none
  statics := none }

def pool5 : Array CpInfo := pool [(1, u "java/io/Serializable"), (0, .class_ 1), (0, u "java/lang/Object"), (0, .class_ 3)] 3

/-- java/io/Serializable -/
def k5 : Class := { plain "java/io/Serializable" (some 0) with
  accessFlags := 1537
  interfaces := #[]
  cf := some (fileOf pool5 2 #[] #[] 1537 4 #[] #[])
  fields := #[]
  methods := #[]
  instanceTypes := #[]
  staticTypes := #[]
  resolved := Array.replicate 8 none
  statics := none }

/-- the primitive byte -/
def k6 : Class := { plain "byte" none with kind := .primitive 'B', accessFlags := 0x411 }
/-- [B -/
def k7 : Class := { plain "[B" (some 0) with kind := .array 6 .byte, interfaces := #[4, 5], accessFlags := 1041 }

/-- the primitive int -/
def k8 : Class := { plain "int" none with kind := .primitive 'I', accessFlags := 0x411 }
/-- [I -/
def k9 : Class := { plain "[I" (some 0) with kind := .array 8 .int, interfaces := #[4, 5], accessFlags := 1041 }

/-- the primitive long -/
def k10 : Class := { plain "long" none with kind := .primitive 'J', accessFlags := 0x411 }
/-- [J -/
def k11 : Class := { plain "[J" (some 0) with kind := .array 10 .long, interfaces := #[4, 5], accessFlags := 1041 }

def heap : Heap := #[]
def classes : Array Class := #[k0, k1, k2, k3, k4, k5, k6, k7, k8, k9, k10, k11]
def interned : List (Array UInt16 × Addr) := []
def slotsUsed : Nat := 0
def theMethod : MethodId := ⟨1, 1⟩
def args0 : Array Value := #[.int 1, .int 2, .int 3, .int 4, .int 5, .int 0]
def aboutOver (below : List Frame) : State where
  vm := { classes := classes, interned := interned.toArray }
  heap := heap
  slotsUsed := slotsUsed
  threads := #[{ frames := .invoking theMethod args0 :: below }]
def below0 : List Frame := [.native { method := ⟨0, 0⟩, args := #[] }]
def about1 : State := aboutOver below0
def p0 : Program := .bare "" "" ""
def e0 : Env := launch0.env 0 0 0
theorem w_frames : about1.frames = Frame.invoking theMethod args0 :: below0 := rfl
set_option maxRecDepth 65536 in
theorem w_args : argsFit about1.vm theMethod args0 = true := by decide +kernel
set_option maxRecDepth 65536 in
theorem w_heap : heapFits about1 = true := by decide +kernel
set_option maxRecDepth 65536 in
theorem w_runnable : about1.curStatus? = some .runnable := by decide +kernel
set_option maxRecDepth 65536 in
theorem w_alone : about1.alone = true := by decide +kernel
set_option maxRecDepth 65536 in
theorem w_named : about1.methodNamed? x = some theMethod := by decide +kernel
set_option maxRecDepth 65536 in
theorem w_hears : about1.hears theMethod below0 = true := by decide +kernel
set_option maxRecDepth 65536 in
theorem w_ripe : about1.ripe theMethod args0 below0 = true := by decide +kernel
theorem w_running : about1.status = .running := rfl
set_option maxRecDepth 65536 in
theorem w_room : about1.hasRoom e0.platform room_1 = true :=
  launch0.hasRoom_least _ room_1 (by decide +kernel) (by decide +kernel) (by decide +kernel) (by decide +kernel) (by decide +kernel) (by decide +kernel)
theorem allAtoms_all (ts : List Jvm.Cond) (a : Array Jvm.Value) (st : Jvm.State) : (allAtoms ts).before a st = ts.all (fun c => c.before a st) := by
  induction ts with
  | nil => rfl
  | cons c t ih =>
    show (Jvm.Cond.and c (allAtoms t)).before a st = _
    rw [Jvm.Cond.before_and, ih, List.all_cons]
def words1 : List Jvm.Cond := Jvm.Cond.code x code maxLocals ret :: tables_1
/-- a 'code' word, met by the world's own term for the bytes: nothing is compared byte by byte -/
theorem code_word {y : MethodName} {bytes : ByteArray} {mx : Nat} {rt : Option FieldType} {a : Array Value} {s : State} {m : MethodId} {meth : Method} {c : Code} (h1 : s.methodNamed? y = some m) (h2 : s.vm.method? m = some meth) (h3 : meth.code = some c) (h4 : c.code = bytes)
    (h5 : (c.maxLocals == mx && c.exceptionTable.isEmpty && decide (c.maxStack ≤ mostOperands) && decide (meth.sig.returnType = rt) && !meth.locks && decide (parseMethodDescriptor y.desc = some meth.sig)) = true) : (Jvm.Cond.code y bytes mx rt).before a s = true := by
  simp only [Bool.and_eq_true, beq_iff_eq, Bool.not_eq_true', decide_eq_true_eq] at h5
  obtain ⟨⟨⟨⟨⟨g1, g2⟩, g3⟩, g4⟩, g5⟩, g6⟩ := h5
  simp [Cond.before, Cond.holds, Cond.value, h1, h2, h3, h4, g1, g2, g3, g4, g5, g6]
def isCode : Jvm.Cond → Bool
  | .code _ _ _ _ => true
  | _ => false
theorem all_split {L : List Jvm.Cond} {P : Jvm.Cond → Bool} (h1 : L.all (fun c => isCode c || P c) = true) (h2 : ∀ c ∈ L.filter isCode, P c = true) : L.all P = true := by
  refine List.all_eq_true.mpr fun c hc => ?_
  have h := List.all_eq_true.mp h1 c hc
  rcases Bool.eq_false_or_eq_true (isCode c) with hi | hi
  · exact h2 c (List.mem_filter.mpr ⟨hc, hi⟩)
  · simpa [hi] using h
set_option maxRecDepth 65536 in
theorem w_c0 : (Jvm.Cond.code x code maxLocals ret).before args0 about1 = true := code_word (m := ⟨1, 1⟩) (meth := k1m1) (c := k1c1) (by decide +kernel) rfl rfl rfl (by decide +kernel)
set_option maxRecDepth 65536 in
theorem w_c1 : (Jvm.Cond.code ({ cls := "com/example/locator/locator/ByteSet", name := "<init>", desc := "()V" } : Jvm.MethodName) prog_22_method_1_code (1 : Nat) (Option.none : Option Jvm.ClassFile.FieldType)).before args0 about1 = true := code_word (m := ⟨2, 0⟩) (meth := k2m0) (c := k2c0) (by decide +kernel) rfl rfl rfl (by decide +kernel)
set_option maxRecDepth 65536 in
theorem w_c2 : (Jvm.Cond.code ({ cls := "java/lang/Object", name := "<init>", desc := "()V" } : Jvm.MethodName) object_method_1_code (1 : Nat) (Option.none : Option Jvm.ClassFile.FieldType)).before args0 about1 = true := code_word (m := ⟨0, 0⟩) (meth := k0m0) (c := k0c0) (by decide +kernel) rfl rfl rfl (by decide +kernel)
set_option maxRecDepth 65536 in
theorem w_c3 : (Jvm.Cond.code ({ cls := "com/example/locator/locator/ByteSet", name := "add", desc := "(I)V" } : Jvm.MethodName) prog_22_method_6_code (2 : Nat) (Option.none : Option Jvm.ClassFile.FieldType)).before args0 about1 = true := code_word (m := ⟨2, 1⟩) (meth := k2m1) (c := k2c1) (by decide +kernel) rfl rfl rfl (by decide +kernel)
set_option maxRecDepth 65536 in
theorem w_c4 : (Jvm.Cond.code ({ cls := "com/example/locator/locator/ByteSet", name := "negate", desc := "()V" } : Jvm.MethodName) prog_22_method_9_code (2 : Nat) (Option.none : Option Jvm.ClassFile.FieldType)).before args0 about1 = true := code_word (m := ⟨2, 3⟩) (meth := k2m3) (c := k2c3) (by decide +kernel) rfl rfl rfl (by decide +kernel)
set_option maxRecDepth 65536 in
theorem w_c5 : (Jvm.Cond.code ({ cls := "com/example/locator/locator/ByteSet", name := "addAll", desc := "(Lcom/example/locator/locator/ByteSet;)V" } : Jvm.MethodName) prog_22_method_8_code (3 : Nat) (Option.none : Option Jvm.ClassFile.FieldType)).before args0 about1 = true := code_word (m := ⟨2, 2⟩) (meth := k2m2) (c := k2c2) (by decide +kernel) rfl rfl rfl (by decide +kernel)
set_option maxRecDepth 65536 in
theorem w_c6 : (Jvm.Cond.code ({ cls := "com/example/locator/locator/ByteSet", name := "copyTo", desc := "([JI)V" } : Jvm.MethodName) prog_22_method_11_code (3 : Nat) (Option.none : Option Jvm.ClassFile.FieldType)).before args0 about1 = true := code_word (m := ⟨2, 4⟩) (meth := k2m4) (c := k2c4) (by decide +kernel) rfl rfl rfl (by decide +kernel)
def codes1 : List Jvm.Cond := [Jvm.Cond.code x code maxLocals ret, Jvm.Cond.code ({ cls := "com/example/locator/locator/ByteSet", name := "<init>", desc := "()V" } : Jvm.MethodName) prog_22_method_1_code (1 : Nat) (Option.none : Option Jvm.ClassFile.FieldType), Jvm.Cond.code ({ cls := "java/lang/Object", name := "<init>", desc := "()V" } : Jvm.MethodName) object_method_1_code (1 : Nat) (Option.none : Option Jvm.ClassFile.FieldType), Jvm.Cond.code ({ cls := "com/example/locator/locator/ByteSet", name := "add", desc := "(I)V" } : Jvm.MethodName) prog_22_method_6_code (2 : Nat) (Option.none : Option Jvm.ClassFile.FieldType), Jvm.Cond.code ({ cls := "com/example/locator/locator/ByteSet", name := "negate", desc := "()V" } : Jvm.MethodName) prog_22_method_9_code (2 : Nat) (Option.none : Option Jvm.ClassFile.FieldType), Jvm.Cond.code ({ cls := "com/example/locator/locator/ByteSet", name := "addAll", desc := "(Lcom/example/locator/locator/ByteSet;)V" } : Jvm.MethodName) prog_22_method_8_code (3 : Nat) (Option.none : Option Jvm.ClassFile.FieldType), Jvm.Cond.code ({ cls := "com/example/locator/locator/ByteSet", name := "copyTo", desc := "([JI)V" } : Jvm.MethodName) prog_22_method_11_code (3 : Nat) (Option.none : Option Jvm.ClassFile.FieldType)]
set_option maxRecDepth 65536 in
theorem codes_eq : words1.filter isCode = codes1 := rfl
theorem w_codes : ∀ c ∈ words1.filter isCode, c.before args0 about1 = true := by
  rw [codes_eq]
  intro c hc
  simp only [codes1, List.mem_cons, List.not_mem_nil, or_false] at hc
  rcases hc with rfl | rfl | rfl | rfl | rfl | rfl | rfl
  · exact w_c0
  · exact w_c1
  · exact w_c2
  · exact w_c3
  · exact w_c4
  · exact w_c5
  · exact w_c6
set_option maxRecDepth 65536 in
theorem w_t1 : (words1.take 24).all (fun c => isCode c || c.before args0 about1) = true := by decide +kernel
set_option maxRecDepth 65536 in
theorem w_t2 : (words1.drop 24).all (fun c => isCode c || c.before args0 about1) = true := by decide +kernel
theorem w_tables : (allAtoms (Jvm.Cond.code x code maxLocals ret :: tables_1)).before args0 about1 = true := by
  rw [allAtoms_all]
  show words1.all (fun c => c.before args0 about1) = true
  refine all_split ?_ w_codes
  rw [← List.take_append_drop 24 words1, List.all_append, w_t1, w_t2]
  rfl
set_option maxRecDepth 65536 in
theorem w_case : (Jvm.Cond.and given_1 narrow_1).before args0 about1 = true := by decide +kernel
theorem w_applies : (headSpec (Jvm.Cond.code x code maxLocals ret :: tables_1) room_1).applies x e0.platform about1 = true :=
  (Spec.applies_iff w_frames).mpr ⟨w_running, w_runnable, w_alone, w_named, w_hears, w_ripe, w_room, w_tables⟩
theorem atStart : AtStart classFile x code maxLocals ret World_1 tables_1 room_1 Calls_1 rest_1 Pre_1 launch0 p0 e0 about1 theMethod args0 below0 :=
  ⟨lists_1, trivial, launch0.admits_env _ _ _, launch0.least_env, fairChoices_fair.cas, fairChoices_fair.clock, w_frames, w_args, w_heap, w_applies, trivial, trivial, w_case⟩
end start1
theorem witness_1 : WitnessClaimed_1 := ⟨start1.p0, start1.e0, start1.about1, start1.theMethod, start1.args0, start1.below0, start1.atStart⟩
end Jvm.Pilot.@@N@@
