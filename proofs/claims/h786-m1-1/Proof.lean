import JvmDerived
import JvmDerived.Pilot.@@N@@Statement
import JvmDerived.Pilot.@@N@@Code
set_option linter.unusedVariables false
set_option linter.unusedSimpArgs false
namespace Jvm.Pilot.@@N@@
open Jvm Jvm.ClassFile Sem Op Lib Jvm.Free Jvm.Stand Jvm.LawKit Jvm.RoadKit Bundle Jvm.Pilot.@@N@@.Jvm.D
/-! the walk goes on from A and ends as P says -/
def OGo (tb : Tables) (e : Env) (below : List Frame) (P : State → Outcome → Prop) (A : State) : Prop := ∃ U o, Steps tb e below A U ∧ U.status = .running ∧ Ended U below o ∧ P U o
def OPost (s : State) (Q : Option Value → Heap → List Loc → Prop) (k n : Nat) (U : State) (o : Outcome) : Prop := ∃ v L, o = .returned v ∧ Q v U.heap L ∧ FrameEnd s o U L k n
theorem OGo.st {tb : Tables} {e : Env} {below : List Frame} {P : State → Outcome → Prop} {A B : State} (st : ∀ t, Steps tb e below B t → Steps tb e below A t) (h : OGo tb e below P B) : OGo tb e below P A := by
  obtain ⟨U, o, h1, h2⟩ := h; exact ⟨U, o, st _ h1, h2⟩
theorem OGo.tr {tb : Tables} {e : Env} {below : List Frame} {P : State → Outcome → Prop} {A B : State} (st : Steps tb e below A B) (h : OGo tb e below P B) : OGo tb e below P A := by
  obtain ⟨U, o, h1, h2⟩ := h; exact ⟨U, o, st.trans h1, h2⟩
theorem OGo.enter {tb : Tables} {e : Env} {below : List Frame} {P : State → Outcome → Prop} {T : State} {g g' : JFrame} (q : g = g') (h : OGo tb e below P (T.setTop g')) : OGo tb e below P (T.setTop g) := q ▸ h
section Own
variable {p : Program} {l : Launch} {e : Env} {R : Room} {s : State} {m : MethodId} {args : Array Value} {below : List Frame} {meth : Method} {c : Code} {T : State} {locs : List Loc} {cells slots k n : Nat} {Q : Option Value → Heap → List Loc → Prop}
theorem OGo.fin (X : Stand p l e R s m args below meth c T locs cells slots) {v : Option Value} (hv : meth.sig.returnType = none → v = none) (hlk : meth.locks = false) {g : JFrame}
    (hst : ∀ fs, (∀ (f : JFrame) (acts : List Action), f.method = m → f.locked = none → f.entered = [] → (doReturn e (T.setTop f) acts v).1 = T.setFrames fs) → Steps p.tables e below (T.setTop g) (T.setFrames fs)) (hq : Q v T.heap locs) (hk : cells ≤ k) (hn : slots ≤ n) : OGo p.tables e below (OPost s Q k n) (T.setTop g) := by
  obtain ⟨fs, hr, hrun, hended, hW, hsame⟩ := X.leave hv hlk
  exact ⟨_, _, hst fs hr, hrun, hended, _, _, rfl, hq, ⟨_, rfl⟩, hW, hsame.mono hk hn⟩
theorem own_wide (X : Stand p l e R s m args below meth c T locs cells slots) {k n : Nat} (hk : cells ≤ k) (hn : slots ≤ n) : Stand p l e R s m args below meth c T locs k n := { X with same := X.same.mono hk hn }
end Own
abbrev OMet (l : Launch) (Z : State) (y : MethodName) (code : ByteArray) (ml : Nat) (ret : Option FieldType) (ws : List Jvm.Cond) (rm : Room) (as : Array Value) (h0 : Heap) (Q : Option Value → Heap → List Loc → Prop) : Prop :=
  MetFree l y (head1 (Jvm.Cond.code y code ml ret :: ws) rm) (fun a U => a = as ∧ Z.Warmed39 U.vm ∧ U.heap = h0) (fun _ _ _ _ _ => True) (fun _ U o U' => ∃ v L, o = .returned v ∧ Q v U'.heap L ∧ FrameEnd U o U' L rm.cells rm.slots)
def Arf (Z : State) (h : Heap) (a : Addr) (k : ClassId) (ty : FieldType) (n : Int32) (f : Nat → Value) : Prop := ∃ c : Cell, Arr Z h a c ty ∧ c.cls = k ∧ c.slots.size = n.toNatClampNeg ∧ ¬ n < 0 ∧ (∀ i, i < c.slots.size → c.slots[i]? = some (f i)) ∧ ∀ i, i < c.slots.size → fits ty (f i) = true
def own_upd (f : Nat → Value) (j : Nat) (v : Value) : Nat → Value := fun i => if i = j then v else f i
section OwnArr
variable {p : Program} {l : Launch} {e : Env} {R : Room} {s : State} {m : MethodId} {args : Array Value} {below : List Frame} {meth : Method} {c : Code} {T : State} {locs : List Loc} {cells slots : Nat} {Z : State} {h h' : Heap} {a b : Addr} {k : ClassId} {ty : FieldType} {n j : Int32} {f f' : Nat → Value} {sl : Nat} {v : Value} {ws : List Addr}
theorem Arf.lt (F : Arf Z h a k ty n f) : a < h.size := by obtain ⟨c, A, _⟩ := F; exact A.lt
theorem Arf.ext (F : Arf Z h a k ty n f) (E : Ext h h') : Arf Z h' a k ty n f := by obtain ⟨c, A, r⟩ := F; exact ⟨c, A.ext E, r⟩
theorem Arf.other (F : Arf Z h b k ty n f) (W : Wr h h' a sl v) (q : b ≠ a) : Arf Z h' b k ty n f := by obtain ⟨c, A, r⟩ := F; exact ⟨c, A.other W q, r⟩
theorem Arf.keep (F : Arf Z h a k ty n f) (K : Keep h h' ws) (q : a ∉ ws) : Arf Z h' a k ty n f := by obtain ⟨c, A, r⟩ := F; exact ⟨c, ⟨K.2.1 a c A.1 q, A.2⟩, r⟩
theorem Arf.pos (F : Arf Z h a k ty n f) : ¬ n < 0 := by obtain ⟨c, A, h1, h2, h3, -⟩ := F; exact h3
theorem Arf.congr (F : Arf Z h a k ty n f) (q : ∀ i, i < n.toNatClampNeg → f i = f' i) : Arf Z h a k ty n f' := by
  obtain ⟨c, A, h1, h2, h3, H, G⟩ := F
  exact ⟨c, A, h1, h2, h3, fun i hi => by rw [H i hi, q i (h2 ▸ hi)], fun i hi => by rw [← q i (h2 ▸ hi)]; exact G i hi⟩
theorem own_new (A : Arr Z h a (newA k ty n) ty) (q : ¬ n < 0) : Arf Z h a k ty n (fun _ => defaultValue ty) := by
  obtain ⟨c, A', h1, h2, h3, H, G⟩ := Arv.new A q
  exact ⟨c, A', h1, h2, h3, fun i hi => by have := H i hi; simpa using this, fun i hi => by have := G i hi; simpa using this⟩
theorem own_set (F : Arf Z h a k ty n f) (hv : fits ty v = true) {jj : Nat} (W : Wr h h' a jj v) : Arf Z h' a k ty n (own_upd f jj v) := by
  obtain ⟨c, A, h1, h2, h3, H, G⟩ := F
  have hj : jj < c.slots.size := by obtain ⟨c', w1, -, w3, -⟩ := W; cases w1.symm.trans A.1; exact w3
  refine ⟨c.setSlot jj v, A.same W, h1, by simpa [Cell.setSlot] using h2, h3, fun i hi => ?_, fun i hi => ?_⟩
  · have hi' : i < c.slots.size := by simpa [Cell.setSlot] using hi
    by_cases q : i = jj
    · subst q; simp [Cell.setSlot, own_upd, hi']
    · have := H i hi'; simp only [own_upd, if_neg q]; rw [← this]; exact Array.getElem?_setIfInBounds_ne (Ne.symm q)
  · have hi' : i < c.slots.size := by simpa [Cell.setSlot] using hi
    by_cases q : i = jj
    · simp only [own_upd, if_pos q]; exact hv
    · simp only [own_upd, if_neg q]; exact G i hi'
theorem own_alen (X : Stand p l e R s m args below meth c T locs cells slots) (hx : p.tables.exec = Jvm.exec) (hZ : Z.Warmed39 s.vm) (eT : T.heap = h) (F : Arf Z h a k ty n f) {g : JFrame} (hg : g.method = m) {rest : List Value} (hs : g.stack = .ref a :: rest) (hd : decode c.code g.pc = .ok (.arraylength, 1)) :
    ∀ t, Steps p.tables e below (T.setTop { g with pc := g.pc + 1, stack := .int n :: rest }) t → Steps p.tables e below (T.setTop g) t := by
  obtain ⟨cl, A, h1, S, N, H, G⟩ := F
  intro t k_
  refine X.arraylength hx (by rw [eT]; exact A.1) (State.isArrayOf_alike hZ.alike A.2.1) hg hs hd t ?_
  rw [len_of S N]; exact k_
theorem own_at (S : cells = n.toNatClampNeg) (hin : ¬ j < 0 ∧ j < n) : j.toNatClampNeg < cells := by
  have h1 := nat_of hin.1
  have h2 : ¬ n < 0 := fun q => by have := hin.1; have := hin.2; rw [Int32.lt_iff_toInt_lt] at *; omega
  have h3 := nat_of h2
  have h4 := hin.2; rw [Int32.lt_iff_toInt_lt] at h4; omega
theorem own_ldI (X : Stand p l e R s m args below meth c T locs cells slots) (hx : p.tables.exec = Jvm.exec) (hZ : Z.Warmed39 s.vm) (eT : T.heap = h) (F : Arf Z h a k .int n f) {j v : Int32} (hin : ¬ j < 0 ∧ j < n) (hv : f j.toNatClampNeg = .int v) {g : JFrame} (hg : g.method = m) {rest : List Value} (hs : g.stack = .int j :: .ref a :: rest) (hd : decode c.code g.pc = .ok (.iaload, 1)) :
    ∀ t, Steps p.tables e below (T.setTop { g with pc := g.pc + 1, stack := .int v :: rest }) t → Steps p.tables e below (T.setTop g) t := by
  obtain ⟨cl, A, h1, S, N, H, G⟩ := F
  exact X.iaload hx (by rw [eT]; exact A.1) (State.isArrayOf_alike hZ.alike A.2.1) A.2.2 (inb_of S hin) (by rw [H _ (own_at S hin), hv]) hg hs hd
theorem own_ldJ (X : Stand p l e R s m args below meth c T locs cells slots) (hx : p.tables.exec = Jvm.exec) (hZ : Z.Warmed39 s.vm) (eT : T.heap = h) (F : Arf Z h a k .long n f) {j : Int32} {v : Int64} (hin : ¬ j < 0 ∧ j < n) (hv : f j.toNatClampNeg = .long v) {g : JFrame} (hg : g.method = m) {rest : List Value} (hs : g.stack = .int j :: .ref a :: rest) (hd : decode c.code g.pc = .ok (.laload, 1)) :
    ∀ t, Steps p.tables e below (T.setTop { g with pc := g.pc + 1, stack := .long v :: rest }) t → Steps p.tables e below (T.setTop g) t := by
  obtain ⟨cl, A, h1, S, N, H, G⟩ := F
  exact X.laload hx (by rw [eT]; exact A.1) (State.isArrayOf_alike hZ.alike A.2.1) A.2.2 (inb_of S hin) (by rw [H _ (own_at S hin), hv]) hg hs hd
theorem own_ldB (X : Stand p l e R s m args below meth c T locs cells slots) (hx : p.tables.exec = Jvm.exec) (hZ : Z.Warmed39 s.vm) (eT : T.heap = h) (F : Arf Z h a k .byte n f) {j v : Int32} (hin : ¬ j < 0 ∧ j < n) (hv : f j.toNatClampNeg = .int v) {g : JFrame} (hg : g.method = m) {rest : List Value} (hs : g.stack = .int j :: .ref a :: rest) (hd : decode c.code g.pc = .ok (.baload, 1)) :
    ∀ t, Steps p.tables e below (T.setTop { g with pc := g.pc + 1, stack := .int v :: rest }) t → Steps p.tables e below (T.setTop g) t := by
  obtain ⟨cl, A, h1, S, N, H, G⟩ := F
  exact X.baloadBytes hx (by rw [eT]; exact A.1) (State.isArrayOf_alike hZ.alike A.2.1) A.2.2 (inb_of S hin) (by rw [H _ (own_at S hin), hv]) hg hs hd
theorem own_ldR (X : Stand p l e R s m args below meth c T locs cells slots) (hx : p.tables.exec = Jvm.exec) (hZ : Z.Warmed39 s.vm) (eT : T.heap = h) {C : String} (F : Arf Z h a k (.object C) n f) {j : Int32} {v : Value} (hin : ¬ j < 0 ∧ j < n) (hv : f j.toNatClampNeg = v) {g : JFrame} (hg : g.method = m) {rest : List Value} (hs : g.stack = .int j :: .ref a :: rest) (hd : decode c.code g.pc = .ok (.aaload, 1)) :
    ∀ t, Steps p.tables e below (T.setTop { g with pc := g.pc + 1, stack := v :: rest }) t → Steps p.tables e below (T.setTop g) t := by
  obtain ⟨cl, A, h1, S, N, H, G⟩ := F
  exact X.aaload hx (by rw [eT]; exact A.1) (State.isArrayOf_alike hZ.alike A.2.1) rfl A.2.2 (inb_of S hin) (by rw [H _ (own_at S hin), hv]) hg hs hd
theorem own_stI (X : Stand p l e R s m args below meth c T locs cells slots) (hx : p.tables.exec = Jvm.exec) (hZ : Z.Warmed39 s.vm) (eT : T.heap = h) (F : Arf Z h a k .int n f) {j x : Int32} (hin : ¬ j < 0 ∧ j < n) {g : JFrame} (hg : g.method = m) {rest : List Value} (hs : g.stack = .int x :: .int j :: .ref a :: rest) (hd : decode c.code g.pc = .ok (.iastore, 1)) :
    ∃ T' h', Stand p l e R s m args below meth c T' (locs ++ [⟨a, j.toNatClampNeg⟩]) cells slots ∧ T'.heap = h' ∧ Wr h h' a j.toNatClampNeg (.int x) ∧ Arf Z h' a k .int n (own_upd f j.toNatClampNeg (.int x)) ∧ ∀ target, Steps p.tables e below (T'.setTop { g with pc := g.pc + 1, stack := rest }) target → Steps p.tables e below (T.setTop g) target := by
  obtain ⟨cl, A, h1, S, N, H, G⟩ := id F
  obtain ⟨T', h', X', e', W, st⟩ := stI X hx hZ eT A (inb_of S hin) hg hs hd
  exact ⟨T', h', X', e', W, own_set F rfl W, st⟩
theorem own_stJ (X : Stand p l e R s m args below meth c T locs cells slots) (hx : p.tables.exec = Jvm.exec) (hZ : Z.Warmed39 s.vm) (eT : T.heap = h) (F : Arf Z h a k .long n f) {j : Int32} {x : Int64} (hin : ¬ j < 0 ∧ j < n) {g : JFrame} (hg : g.method = m) {rest : List Value} (hs : g.stack = .long x :: .int j :: .ref a :: rest) (hd : decode c.code g.pc = .ok (.lastore, 1)) :
    ∃ T' h', Stand p l e R s m args below meth c T' (locs ++ [⟨a, j.toNatClampNeg⟩]) cells slots ∧ T'.heap = h' ∧ Wr h h' a j.toNatClampNeg (.long x) ∧ Arf Z h' a k .long n (own_upd f j.toNatClampNeg (.long x)) ∧ ∀ target, Steps p.tables e below (T'.setTop { g with pc := g.pc + 1, stack := rest }) target → Steps p.tables e below (T.setTop g) target := by
  obtain ⟨cl, A, h1, S, N, H, G⟩ := id F
  obtain ⟨T', h', X', e', W, st⟩ := stJ X hx hZ eT A (inb_of S hin) hg hs hd
  exact ⟨T', h', X', e', W, own_set F rfl W, st⟩
theorem own_stB (X : Stand p l e R s m args below meth c T locs cells slots) (hx : p.tables.exec = Jvm.exec) (hZ : Z.Warmed39 s.vm) (eT : T.heap = h) (F : Arf Z h a k .byte n f) {j x : Int32} (hin : ¬ j < 0 ∧ j < n) {g : JFrame} (hg : g.method = m) {rest : List Value} (hs : g.stack = .int x :: .int j :: .ref a :: rest) (hd : decode c.code g.pc = .ok (.bastore, 1)) :
    ∃ T' h', Stand p l e R s m args below meth c T' (locs ++ [⟨a, j.toNatClampNeg⟩]) cells slots ∧ T'.heap = h' ∧ Wr h h' a j.toNatClampNeg (.int (nar .byte x)) ∧ Arf Z h' a k .byte n (own_upd f j.toNatClampNeg (.int (nar .byte x))) ∧ ∀ target, Steps p.tables e below (T'.setTop { g with pc := g.pc + 1, stack := rest }) target → Steps p.tables e below (T.setTop g) target := by
  obtain ⟨cl, A, h1, S, N, H, G⟩ := id F
  obtain ⟨T', h', X', e', W, st⟩ := stB X hx hZ eT A (inb_of S hin) hg hs hd
  exact ⟨T', h', X', e', W, own_set F (fits_nar_byte _) W, st⟩
theorem own_stR (X : Stand p l e R s m args below meth c T locs cells slots) (hx : p.tables.exec = Jvm.exec) (hZ : Z.Warmed39 s.vm) (eT : T.heap = h) {C : String} (F : Arf Z h a k (.object C) n f) {j : Int32} {x : Value} (hin : ¬ j < 0 ∧ j < n) (hr : x.isRef = true) (hS : Sto Z h a x) {g : JFrame} (hg : g.method = m) {rest : List Value} (hs : g.stack = x :: .int j :: .ref a :: rest) (hd : decode c.code g.pc = .ok (.aastore, 1)) :
    ∃ T' h', Stand p l e R s m args below meth c T' (locs ++ [⟨a, j.toNatClampNeg⟩]) cells slots ∧ T'.heap = h' ∧ Wr h h' a j.toNatClampNeg x ∧ Arf Z h' a k (.object C) n (own_upd f j.toNatClampNeg x) ∧ ∀ target, Steps p.tables e below (T'.setTop { g with pc := g.pc + 1, stack := rest }) target → Steps p.tables e below (T.setTop g) target := by
  obtain ⟨cl, A, h1, S, N, H, G⟩ := id F
  obtain ⟨T', h', X', e', W, st⟩ := stR X hx hZ eT A (inb_of S hin) rfl hS hg hs hd
  exact ⟨T', h', X', e', W, own_set F (by rcases ref_cases hr with rfl | ⟨y, rfl⟩ <;> rfl) W, st⟩
theorem own_getD (f : Nat → Value) (n i : Nat) (d : Value) (h : i < n) : ((List.range n).map f).getD i d = f i := by
  simp [List.getD_eq_getElem?_getD, h]
theorem Arf.arv (F : Arf Z h a k ty n f) (d : Value) : Arv Z h a k ty n ((List.range n.toNatClampNeg).map f) d := by
  obtain ⟨c, A, h1, S, N, H, G⟩ := F
  exact ⟨c, A, h1, S, N, fun i hi => by rw [own_getD f _ i d (S ▸ hi)]; exact H i hi, fun i hi => by rw [own_getD f _ i d (S ▸ hi)]; exact G i hi⟩
theorem own_ofArv {vs : List Value} {d : Value} (F : Arv Z h a k ty n vs d) : Arf Z h a k ty n (fun i => vs.getD i d) := F
/-- System.arraycopy of a part of a primitive array into another one -/
theorem own_copy (X : Stand p l e R s m args below meth c T locs cells slots) (hx : p.tables.exec = Jvm.exec) (hZ : Z.Warmed39 s.vm) {a0 : Array Value} {own : String} {index : Nat} (hown : s.vm.findClass own = some m.cls)
    (w1 : (Jvm.Cond.methodLink own index Jvm.Stand.acN).before a0 Z = true) (w2 : (Jvm.Cond.native Jvm.Stand.acN).before a0 Z = true) (w3 : (Jvm.Cond.static Jvm.Stand.acN).before a0 Z = true) (w4 : (Jvm.Cond.initialized "java/lang/System").before a0 Z = true) (eT : T.heap = h)
    {k' : ClassId} {z' sp dp nn : Int32} (A : Arf Z h a k ty n f) (B : Arf Z h b k' ty z' f') (hty : refKind ty = false)
    (h1 : ¬ sp < 0) (h2 : ¬ dp < 0) (h3 : ¬ nn < 0) (h4 : sp.toNatClampNeg + nn.toNatClampNeg ≤ n.toNatClampNeg) (h5 : dp.toNatClampNeg + nn.toNatClampNeg ≤ z'.toNatClampNeg) {n0 : Nat} (N : Fr n0 locs) (ge : n0 ≤ b)
    {g : JFrame} (hg : g.method = m) (hsize : g.locals.size = c.maxLocals) {rest : List Value} (hs : g.stack = .int nn :: .int dp :: .ref b :: .int sp :: .ref a :: rest) (hd : decode c.code g.pc = .ok (.invokestatic index, 3))
    (hf : 1 ≤ R.frames) {W : Nat} (hW : 2 * g.monitorRoom + (rest.map fun v => v.category).sum ≤ W) (hlo : W + (nativeFrameWords "java/lang/System" "arraycopy" 5 + 11) ≤ R.locals) :
    ∃ T' h' L, Stand p l e R s m args below meth c T' L cells slots ∧ T'.heap = h' ∧ Fr n0 L ∧ Keep h h' [b] ∧ Arf Z h' b k' ty z' (fun i => if dp.toNatClampNeg ≤ i ∧ i < dp.toNatClampNeg + nn.toNatClampNeg then f (sp.toNatClampNeg + (i - dp.toNatClampNeg)) else f' i) ∧
      ∀ target, Steps p.tables e below (T'.setTop { g with pc := g.pc + 3, stack := rest }) target → Steps p.tables e below (T.setTop g) target := by
  obtain ⟨T', h', L, X', e', N', K', V', st⟩ := cpA X hx hZ hown w1 w2 w3 w4 eT (A.arv .null) (B.arv .null) (Or.inl ⟨rfl, hty⟩) h1 h2 h3 h4 h5 rfl (by simpa using h5) N ge hg hsize hs hd hf hW hlo
  refine ⟨T', h', L, X', e', N', K', (own_ofArv V').congr fun i hi => ?_, st⟩
  have hb : dp.toNatClampNeg ≤ z'.toNatClampNeg := by omega
  simp only [List.getD_eq_getElem?_getD]
  by_cases q1 : i < dp.toNatClampNeg
  · rw [if_neg (by omega), List.append_assoc, List.getElem?_append_left (by simp; omega), List.getElem?_take_of_lt q1]; simp [hi]
  · by_cases q2 : i < dp.toNatClampNeg + nn.toNatClampNeg
    · rw [if_pos ⟨by omega, q2⟩, List.append_assoc, List.getElem?_append_right (by simp; omega), List.getElem?_append_left (by simp; omega)]
      have e1 : min dp.toNatClampNeg z'.toNatClampNeg = dp.toNatClampNeg := Nat.min_eq_left hb
      simp only [List.length_take, List.length_map, List.length_range, e1]
      have e2 : i - dp.toNatClampNeg < nn.toNatClampNeg := by omega
      have e3 : sp.toNatClampNeg + (i - dp.toNatClampNeg) < n.toNatClampNeg := by omega
      simp [e2, e3]
    · rw [if_neg (by omega), List.getElem?_append_right (by simp; omega)]
      have e1 : min dp.toNatClampNeg z'.toNatClampNeg = dp.toNatClampNeg := Nat.min_eq_left hb
      simp only [List.length_append, List.length_take, List.length_map, List.length_range, e1, List.getElem?_drop]
      have e2 : dp.toNatClampNeg + nn.toNatClampNeg + (i - (dp.toNatClampNeg + nn.toNatClampNeg)) = i := by omega
      rw [e2]; simp [hi]
end OwnArr
theorem own_selfsel {Z : State} {a0 : Array Value} {y y0 : MethodName} (w0 : (Jvm.Cond.selects y.cls y0 y0).before a0 Z = true) (h0 : y0.cls = y.cls) (wi : (Jvm.Cond.instanceMethod y).before a0 Z = true) (wp : (Jvm.Cond.privateMethod y).before a0 Z = true) (hy : y.cls ≠ "java/lang/invoke/MethodHandle" ∧ y.cls ≠ "java/lang/invoke/VarHandle") : (Jvm.Cond.selects y.cls y y).before a0 Z = true := by
  obtain ⟨c, r, m, q1, q2, q3, q4, k, q5, q6⟩ := Cond.selects_spec w0
  have q7 := findClass_of_methodNamed q3
  rw [h0, q1] at q7
  cases q7
  exact selects_self_of_private q1 q5 q6 (Cond.privateMethod_at wp) wi hy
def own_len (v : Int64) : Int32 := if v < 128 then 1 else if v < 16384 then 2 else if v < 2097152 then 3 else if v < 268435456 then 4 else if v < 34359738368 then 5 else if v < 4398046511104 then 6 else if v < 562949953421312 then 7 else if v < 72057594037927936 then 8 else 9
def own_sr (x : Int64) : Int64 := ((x.toUInt64 >>> ((7 : Int32) &&& 0x3f).toInt64.toUInt64).toInt64)
theorem own_srn (x : Int64) (h : 0 ≤ x.toInt) : (own_sr x).toInt = x.toInt / 128 := by
  have e : (own_sr x).toBitVec = x.toBitVec >>> 7 := by
    show (x.toUInt64 >>> _).toBitVec = _
    rw [UInt64.toBitVec_shiftRight]
    show x.toBitVec >>> (((7 : Int32) &&& 0x3f).toInt64.toUInt64.toBitVec % 64) = _
    rw [BitVec.ushiftRight_eq']; rfl
  have hx : x.toInt = x.toBitVec.toNat := by
    have h' : 0 ≤ x.toBitVec.toInt := h
    show x.toBitVec.toInt = _
    rw [BitVec.toInt_eq_toNat_cond] at h' ⊢
    have := x.toBitVec.isLt
    split at h' <;> split <;> omega
  show (own_sr x).toBitVec.toInt = _
  rw [e, BitVec.toInt_eq_toNat_of_lt (by rw [BitVec.toNat_ushiftRight, Nat.shiftRight_eq_div_pow]; have := x.toBitVec.isLt; omega), BitVec.toNat_ushiftRight, Nat.shiftRight_eq_div_pow, hx]
  omega
theorem own_len_lo {v : Int64} (h : v < 128) : own_len v = 1 := by unfold own_len; rw [if_pos h]
theorem own_len_hi {v : Int64} (h0 : 0 ≤ v.toInt) (h : ¬ v < 128) : own_len v = 1 + own_len (own_sr v) := by
  have e := own_srn v h0
  have key : ∀ k : Int64, ∀ m : Int64, m.toInt = 128 * k.toInt → (own_sr v < k ↔ v < m) := by
    intro k m hm; rw [Int64.lt_iff_toInt_lt, Int64.lt_iff_toInt_lt, e, hm]; omega
  have hlt : v.toInt < 2 ^ 63 := v.toInt_lt
  have k1 := key 128 16384 (by decide)
  have k2 := key 16384 2097152 (by decide)
  have k3 := key 2097152 268435456 (by decide)
  have k4 := key 268435456 34359738368 (by decide)
  have k5 := key 34359738368 4398046511104 (by decide)
  have k6 := key 4398046511104 562949953421312 (by decide)
  have k7 := key 562949953421312 72057594037927936 (by decide)
  have k8 : own_sr v < 72057594037927936 := by rw [Int64.lt_iff_toInt_lt, e]; show v.toInt / 128 < 72057594037927936; omega
  unfold own_len
  simp only [if_neg h, k1, k2, k3, k4, k5, k6, k7, k8, if_true]
  (repeat' split) <;> decide
theorem own_len_pos (v : Int64) : 1 ≤ (own_len v).toInt ∧ (own_len v).toInt ≤ 9 := by unfold own_len; (repeat' split) <;> decide
theorem own_mask (a : Int64) : 0 ≤ (a &&& (9223372036854775807 : Int64)).toInt := by
  have e : (a &&& (9223372036854775807 : Int64)).toBitVec = a.toBitVec &&& (BitVec.ofNat 64 9223372036854775807) := rfl
  show 0 ≤ (a &&& (9223372036854775807 : Int64)).toBitVec.toInt
  have l : (a &&& (9223372036854775807 : Int64)).toBitVec.toNat < 2 ^ 63 := by rw [e, BitVec.toNat_and]; exact Nat.lt_of_le_of_lt Nat.and_le_right (by decide)
  rw [BitVec.toInt_eq_toNat_of_lt (by omega)]; omega

def own_max (x y : Int32) : Int32 := if x < y then y else x
def own_min (x y : Int32) : Int32 := if y < x then y else x
def own_Enc (Z : State) (h : Heap) (n0 : Nat) (o : Addr) (sz n : Int32) : Prop := ∃ (b : Addr) (k : ClassId) (f : Nat → Value), Exa Z h o "com/example/cari/cari/index/Encoder" ∧ Fld Z h o "com/example/cari/cari/index/Encoder" "bytes" "[B" (.ref b) ∧ Fld Z h o "com/example/cari/cari/index/Encoder" "size" "I" (.int sz) ∧ Arf Z h b k .byte n f ∧ n0 ≤ b ∧ o ≠ b
theorem own_le_of (a b : Int32) (h : ¬ b < a) : a.toInt ≤ b.toInt := by rw [Int32.lt_iff_toInt_lt] at h; omega
theorem own_in {sz n : Int32} (h0 : 0 ≤ sz.toInt) (h : sz < n) : ¬ sz < 0 ∧ sz < n := ⟨by rw [Int32.lt_iff_toInt_lt]; show ¬ sz.toInt < 0; omega, h⟩
theorem own_succ {sz n : Int32} (h0 : 0 ≤ sz.toInt) (h : sz < n) : (sz + 1).toInt = sz.toInt + 1 := by
  have := n.toInt_lt; rw [Int32.lt_iff_toInt_lt] at h
  rw [XT.add32 (by show XT.fits32 (sz.toInt + 1); unfold XT.fits32; omega)]; rfl
theorem own_nlt {sz n : Int32} (h0 : 0 ≤ sz.toInt) (h : sz < n) : ¬ n < sz + 1 := by
  have := own_succ h0 h; rw [Int32.lt_iff_toInt_lt] at h ⊢; omega
theorem own_eq16 {sz : Int32} (h1 : sz.toInt ≤ (16 : Int32).toInt) (h : ¬ sz < 16) : sz = 16 := by
  rw [Int32.lt_iff_toInt_lt] at h; apply Int32.toInt_inj.mp; omega
theorem own_d_prog_43_method_1_code_0 : decode prog_43_method_1_code 0 = .ok (.aload_n 0, 1) := by decide +kernel
theorem own_d_prog_43_method_1_code_1 : decode prog_43_method_1_code 1 = .ok (.invokespecial 1, 3) := by decide +kernel
theorem own_d_prog_43_method_1_code_4 : decode prog_43_method_1_code 4 = .ok (.aload_n 0, 1) := by decide +kernel
theorem own_d_prog_43_method_1_code_5 : decode prog_43_method_1_code 5 = .ok (.bipush 16, 2) := by decide +kernel
theorem own_d_prog_43_method_1_code_7 : decode prog_43_method_1_code 7 = .ok (.newarray .byte, 2) := by decide +kernel
theorem own_d_prog_43_method_1_code_9 : decode prog_43_method_1_code 9 = .ok (.putfield 7, 3) := by decide +kernel
theorem own_d_prog_43_method_1_code_12 : decode prog_43_method_1_code 12 = .ok (.return_, 1) := by decide +kernel
theorem own_pn0 : plainName "com/example/cari/cari/index/Encoder" = true := by first | (simp [plainName, overriddenIn]; done) | decide +kernel
theorem own_ef_rm1 (m : MethodId) (x0 : Addr) : entryFrame m #[(.ref x0)] 1 = mkF m 0 #[.val (.ref x0)] [] := by first | (simp [entryFrame, mkF, argsToLocals, Value.category]; done) | rfl
def own_Q_rm1 (Z : State) (a1 : Addr) (h0 : Heap) (n0 : Nat) (v : Option Value) (h : Heap) (L : List Loc) : Prop := v = none ∧ Fr n0 L ∧ n0 ≤ h.size ∧ own_Enc Z h n0 a1 0 16
set_option maxRecDepth 65536 in
set_option maxHeartbeats 40000000 in
theorem rm1 (l : Launch) (Z : State) (a0 : Array Value) (hw : ∀ d ∈ tables_1, d.before a0 Z = true) (ws : List Jvm.Cond) (a1 : Addr) (h0 : Heap) (n0 : Nat) (Z0 : n0 ≤ h0.size) (E_a1 : Exa Z h0 a1 "com/example/cari/cari/index/Encoder") (F_bytes_a1 : Fld Z h0 a1 "com/example/cari/cari/index/Encoder" "bytes" "[B" .null) (F_size_a1 : Fld Z h0 a1 "com/example/cari/cari/index/Encoder" "size" "I" (.int (0 : Int32))) (g_a1 : n0 ≤ a1) :
    OMet l Z (⟨"com/example/cari/cari/index/Encoder", "<init>", "()V"⟩ : MethodName) prog_43_method_1_code 1 none ws ({ frames := 1, cells := 1, slots := 16, locals := 12 } : Room) #[(.ref a1)] h0 (own_Q_rm1 Z a1 h0 n0) := by
  refine MetFree.of_bodySF (plainFor_of_name own_pn0) hisR ?_
  intro p e s m args below meth c s₁ Bd hml0 hP hK
  obtain ⟨rfl, hZ, hh⟩ := hP
  have hx := Bd.exec
  have hby := Bd.bytes
  have hml : c.maxLocals = 1 := hml0
  have hown : s.vm.findClass "com/example/cari/cari/index/Encoder" = some m.cls := findClass_of_methodNamed Bd.named
  have hnm := (name_of_methodNamed Bd.named Bd.method).1
  have hlk : meth.locks = false := Bd.notSynchronized
  have X0 : Stand p l e ({ frames := 1, cells := 1, slots := 16, locals := 12 } : Room) s m #[(.ref a1)] below meth c s₁ [] 0 0 := Stand.of_body Bd
  have e0 : s₁.heap = h0 := by rw [← hh, Bd.state]; rfl
  have N0 := Fr.nil n0
  refine OGo.enter (P := OPost s (own_Q_rm1 Z a1 h0 n0) 1 16) (own_ef_rm1 m a1) ?_
  show OGo p.tables e below _ (s₁.setTop (mkF m 0 #[.val (.ref a1)] []))
  refine OGo.st (fun _ k_ => XS.aloadN X0.here hx rfl (hb hby own_d_prog_43_method_1_code_0) rfl rfl k_) ?_
  show OGo p.tables e below _ (s₁.setTop (mkF m 1 #[.val (.ref a1)] [(.ref a1)]))
  obtain ⟨T1, X1, ez1, st1⟩ := initO X0 hx hZ hown (hw _ (List.mem_of_getElem? (i := 7) rfl)) (hw _ (List.mem_of_getElem? (i := 8) rfl)) (hw _ (List.mem_of_getElem? (i := 9) rfl)) e0 (g := (mkF m 1 #[.val (.ref a1)] [(.ref a1)])) rfl (by rw [hml]; rfl) rfl (hb hby own_d_prog_43_method_1_code_1) (by decide) (W := 0) (by show 2 * 0 + _ ≤ _; exact Nat.le_of_eq rfl) (by decide)
  refine OGo.st st1 ?_
  show OGo p.tables e below _ (T1.setTop (mkF m 4 #[.val (.ref a1)] []))
  refine OGo.st (fun _ k_ => XS.aloadN X1.here hx rfl (hb hby own_d_prog_43_method_1_code_4) rfl rfl k_) ?_
  show OGo p.tables e below _ (T1.setTop (mkF m 5 #[.val (.ref a1)] [(.ref a1)]))
  refine OGo.st (fun _ k_ => XS.bipush X1.here hx rfl (hb hby own_d_prog_43_method_1_code_5) k_) ?_
  show OGo p.tables e below _ (T1.setTop (mkF m 7 #[.val (.ref a1)] [(.int (16 : Int32)), (.ref a1)]))
  obtain ⟨T2, hz2, kz2, X2, ez2, Ez2, Az2, st2⟩ := newP X1 hx hZ (hw _ (List.mem_of_getElem? (i := 10) rfl)) ez1 (g := (mkF m 7 #[.val (.ref a1)] [(.int (16 : Int32)), (.ref a1)])) rfl (hb hby own_d_prog_43_method_1_code_7) rfl (by decide) (cap := 16) (by decide) (by decide) (by decide) (by decide)
  obtain ⟨bz2, g2⟩ : ∃ z, z = h0.size := ⟨_, rfl⟩
  rw [← g2] at Az2 st2
  have lt_a1_bz2 : a1 < bz2 := Nat.lt_of_lt_of_le E_a1.lt (Nat.le_of_eq g2.symm)
  have g_bz2 : n0 ≤ bz2 := Nat.le_trans (Nat.le_trans Z0 (Keep.refl h0 [a1]).1) (Nat.le_of_eq g2.symm)
  have sz_bz2 : h0.size ≤ bz2 := Nat.le_trans (Keep.refl h0 [a1]).1 (Nat.le_of_eq g2.symm)
  have Ex_3 := E_a1.ext Ez2
  have F_4 := F_bytes_a1.ext Ez2
  have F_5 := F_size_a1.ext Ez2
  have K_6 : Keep h0 hz2 [a1] := (Keep.refl h0 [a1]).ext Ez2
  have V_bz2 : Arf Z hz2 bz2 kz2 .byte (16 : Int32) (fun _ => (.int (0 : Int32))) := own_new Az2 (by decide)
  refine OGo.st st2 ?_
  show OGo p.tables e below _ (T2.setTop (mkF m 9 #[.val (.ref a1)] [(.ref bz2), (.ref a1)]))
  obtain ⟨T7, hz7, X7, ez7, W7, st7⟩ := putF X2 hx hZ hown (host := "") (Or.inl (hw _ (List.mem_of_getElem? (i := 11) rfl))) Via.refl ez2 F_4 Ex_3 (Or.inl (hw _ (List.mem_of_getElem? (i := 12) rfl))) (hw _ (List.mem_of_getElem? (i := 2) rfl)) (ty := (.array .byte)) (by decide) rfl rfl (g := (mkF m 9 #[.val (.ref a1)] [(.ref bz2), (.ref a1)])) rfl rfl (hb hby own_d_prog_43_method_1_code_9)
  have Fw7 : Fld Z hz7 a1 "com/example/cari/cari/index/Encoder" "bytes" "[B" (.ref bz2) := F_4.same W7
  have Ex_8 := Ex_3.wr W7
  have F_9 := F_5.other W7 (Or.inr (slot_ne (Or.inl (hw _ (List.mem_of_getElem? (i := 28) rfl))) (Or.inl (hw _ (List.mem_of_getElem? (i := 12) rfl))) (by decide) (t := .int) (t' := (.array .byte)) (by decide) (by decide)))
  have Af_10 := V_bz2.other W7 (Ne.symm (Nat.ne_of_lt lt_a1_bz2))
  have N7 := Fr.snoc X7 N0 g_a1
  have K_11 : Keep h0 hz7 [a1] := K_6.wr W7 (Or.inl (List.mem_of_getElem? (i := 0) rfl))
  refine OGo.st st7 ?_
  show OGo p.tables e below _ (T7.setTop (mkF m 12 #[.val (.ref a1)] []))
  refine OGo.fin X7 (v := none) (fun _ => rfl) hlk (fun fs hr => X7.returnOut hx Bd.returns (hb hby own_d_prog_43_method_1_code_12) hr) ?_ (by decide) (by decide)
  show own_Q_rm1 Z a1 h0 n0 _ T7.heap _
  rw [ez7]
  exact ⟨rfl, N7, (Nat.le_trans Z0 K_11.1), ⟨bz2, kz2, _, Ex_8, Fw7, F_9, Af_10, g_bz2, (Nat.ne_of_lt lt_a1_bz2)⟩⟩
theorem own_d_jdk_29_method_65_code_0 : decode jdk_29_method_65_code 0 = .ok (.iload_n 0, 1) := by decide +kernel
theorem own_d_jdk_29_method_65_code_1 : decode jdk_29_method_65_code 1 = .ok (.iload_n 1, 1) := by decide +kernel
theorem own_d_jdk_29_method_65_code_2 : decode jdk_29_method_65_code 2 = .ok (.if_icmp .lt 7, 3) := by decide +kernel
theorem own_d_jdk_29_method_65_code_9 : decode jdk_29_method_65_code 9 = .ok (.iload_n 1, 1) := by decide +kernel
theorem own_d_jdk_29_method_65_code_10 : decode jdk_29_method_65_code 10 = .ok (.ireturn, 1) := by decide +kernel
theorem own_d_jdk_29_method_65_code_5 : decode jdk_29_method_65_code 5 = .ok (.iload_n 0, 1) := by decide +kernel
theorem own_d_jdk_29_method_65_code_6 : decode jdk_29_method_65_code 6 = .ok (.goto 4, 3) := by decide +kernel
theorem own_ef_rm2 (m : MethodId) (x0 : Int32) (x1 : Int32) : entryFrame m #[(.int x0), (.int x1)] 2 = mkF m 0 #[.val (.int x0), .val (.int x1)] [] := by first | (simp [entryFrame, mkF, argsToLocals, Value.category]; done) | rfl
def own_Q_rm2 (Z : State) (p1 : Int32) (p2 : Int32) (r : Int32) (h0 : Heap) (n0 : Nat) (v : Option Value) (h : Heap) (L : List Loc) : Prop := v = some (.int r) ∧ Fr n0 L ∧ h = h0
set_option maxRecDepth 65536 in
set_option maxHeartbeats 40000000 in
theorem rm2 (l : Launch) (Z : State) (a0 : Array Value) (hw : ∀ d ∈ tables_1, d.before a0 Z = true) (ws : List Jvm.Cond) (p1 : Int32) (p2 : Int32) (r : Int32) (h0 : Heap) (n0 : Nat) (Z0 : n0 ≤ h0.size) (hr : own_max p1 p2 = r) :
    OMet l Z (⟨"java/lang/Math", "max", "(II)I"⟩ : MethodName) jdk_29_method_65_code 2 (some .int) ws ({ frames := 0, cells := 0, slots := 0, locals := 0 } : Room) #[(.int p1), (.int p2)] h0 (own_Q_rm2 Z p1 p2 r h0 n0) := by
  refine MetFree.of_bodySF (Jvm.Free.JP.mathPlain rfl (by decide +kernel)) hisR ?_
  intro p e s m args below meth c s₁ Bd hml0 hP hK
  obtain ⟨rfl, hZ, hh⟩ := hP
  have hx := Bd.exec
  have hby := Bd.bytes
  have hml : c.maxLocals = 2 := hml0
  have hown : s.vm.findClass "java/lang/Math" = some m.cls := findClass_of_methodNamed Bd.named
  have hnm := (name_of_methodNamed Bd.named Bd.method).1
  have hlk : meth.locks = false := Bd.notSynchronized
  have X0 : Stand p l e ({ frames := 0, cells := 0, slots := 0, locals := 0 } : Room) s m #[(.int p1), (.int p2)] below meth c s₁ [] 0 0 := Stand.of_body Bd
  have e0 : s₁.heap = h0 := by rw [← hh, Bd.state]; rfl
  have N0 := Fr.nil n0
  refine OGo.enter (P := OPost s (own_Q_rm2 Z p1 p2 r h0 n0) 0 0) (own_ef_rm2 m p1 p2) ?_
  show OGo p.tables e below _ (s₁.setTop (mkF m 0 #[.val (.int p1), .val (.int p2)] []))
  refine OGo.st (fun _ k_ => XS.iloadN X0.here hx rfl (hb hby own_d_jdk_29_method_65_code_0) rfl k_) ?_
  show OGo p.tables e below _ (s₁.setTop (mkF m 1 #[.val (.int p1), .val (.int p2)] [(.int p1)]))
  refine OGo.st (fun _ k_ => XS.iloadN X0.here hx rfl (hb hby own_d_jdk_29_method_65_code_1) rfl k_) ?_
  show OGo p.tables e below _ (s₁.setTop (mkF m 2 #[.val (.int p1), .val (.int p2)] [(.int p2), (.int p1)]))
  by_cases hc2 : p1 < p2
  · refine OGo.st (fun _ k_ => XS.icmpYes X0.here hx rfl (pc0 := 2) (pc' := 9) rfl (hb hby own_d_jdk_29_method_65_code_2) rfl (XT.ii_lt_t hc2) (by decide) (by decide) k_) ?_
    show OGo p.tables e below _ (s₁.setTop (mkF m 9 #[.val (.int p1), .val (.int p2)] []))
    refine OGo.st (fun _ k_ => XS.iloadN X0.here hx rfl (hb hby own_d_jdk_29_method_65_code_9) rfl k_) ?_
    show OGo p.tables e below _ (s₁.setTop (mkF m 10 #[.val (.int p1), .val (.int p2)] [(.int p2)]))
    refine OGo.fin X0 (v := some (.int p2)) (fun h => by rw [Bd.returns] at h; cases h) hlk (fun fs hr => X0.ireturnOut hx Bd.returns rfl (Or.inl rfl) (hb hby own_d_jdk_29_method_65_code_10) hr) ?_ (by decide) (by decide)
    show own_Q_rm2 Z p1 p2 r h0 n0 _ s₁.heap _
    rw [e0]
    exact ⟨by rw [← hr]; simp [own_max, hc2], N0, rfl⟩
  · refine OGo.st (fun _ k_ => XS.icmpNo X0.here hx rfl (hb hby own_d_jdk_29_method_65_code_2) rfl (XT.ii_lt_f hc2) k_) ?_
    show OGo p.tables e below _ (s₁.setTop (mkF m 5 #[.val (.int p1), .val (.int p2)] []))
    refine OGo.st (fun _ k_ => XS.iloadN X0.here hx rfl (hb hby own_d_jdk_29_method_65_code_5) rfl k_) ?_
    show OGo p.tables e below _ (s₁.setTop (mkF m 6 #[.val (.int p1), .val (.int p2)] [(.int p1)]))
    refine OGo.st (fun _ k_ => XS.goto X0.here hx rfl (pc0 := 6) (pc' := 10) rfl (hb hby own_d_jdk_29_method_65_code_6) (by decide) (by decide) k_) ?_
    show OGo p.tables e below _ (s₁.setTop (mkF m 10 #[.val (.int p1), .val (.int p2)] [(.int p1)]))
    refine OGo.fin X0 (v := some (.int p1)) (fun h => by rw [Bd.returns] at h; cases h) hlk (fun fs hr => X0.ireturnOut hx Bd.returns rfl (Or.inl rfl) (hb hby own_d_jdk_29_method_65_code_10) hr) ?_ (by decide) (by decide)
    show own_Q_rm2 Z p1 p2 r h0 n0 _ s₁.heap _
    rw [e0]
    exact ⟨by rw [← hr]; simp [own_max, hc2], N0, rfl⟩
theorem own_d_jdk_29_method_69_code_0 : decode jdk_29_method_69_code 0 = .ok (.iload_n 0, 1) := by decide +kernel
theorem own_d_jdk_29_method_69_code_1 : decode jdk_29_method_69_code 1 = .ok (.iload_n 1, 1) := by decide +kernel
theorem own_d_jdk_29_method_69_code_2 : decode jdk_29_method_69_code 2 = .ok (.if_icmp .gt 7, 3) := by decide +kernel
theorem own_d_jdk_29_method_69_code_9 : decode jdk_29_method_69_code 9 = .ok (.iload_n 1, 1) := by decide +kernel
theorem own_d_jdk_29_method_69_code_10 : decode jdk_29_method_69_code 10 = .ok (.ireturn, 1) := by decide +kernel
theorem own_d_jdk_29_method_69_code_5 : decode jdk_29_method_69_code 5 = .ok (.iload_n 0, 1) := by decide +kernel
theorem own_d_jdk_29_method_69_code_6 : decode jdk_29_method_69_code 6 = .ok (.goto 4, 3) := by decide +kernel
theorem own_ef_rm3 (m : MethodId) (x0 : Int32) (x1 : Int32) : entryFrame m #[(.int x0), (.int x1)] 2 = mkF m 0 #[.val (.int x0), .val (.int x1)] [] := by first | (simp [entryFrame, mkF, argsToLocals, Value.category]; done) | rfl
def own_Q_rm3 (Z : State) (p1 : Int32) (p2 : Int32) (r : Int32) (h0 : Heap) (n0 : Nat) (v : Option Value) (h : Heap) (L : List Loc) : Prop := v = some (.int r) ∧ Fr n0 L ∧ h = h0
set_option maxRecDepth 65536 in
set_option maxHeartbeats 40000000 in
theorem rm3 (l : Launch) (Z : State) (a0 : Array Value) (hw : ∀ d ∈ tables_1, d.before a0 Z = true) (ws : List Jvm.Cond) (p1 : Int32) (p2 : Int32) (r : Int32) (h0 : Heap) (n0 : Nat) (Z0 : n0 ≤ h0.size) (hr : own_min p1 p2 = r) :
    OMet l Z (⟨"java/lang/Math", "min", "(II)I"⟩ : MethodName) jdk_29_method_69_code 2 (some .int) ws ({ frames := 0, cells := 0, slots := 0, locals := 0 } : Room) #[(.int p1), (.int p2)] h0 (own_Q_rm3 Z p1 p2 r h0 n0) := by
  refine MetFree.of_bodySF (Jvm.Free.JP.mathPlain rfl (by decide +kernel)) hisR ?_
  intro p e s m args below meth c s₁ Bd hml0 hP hK
  obtain ⟨rfl, hZ, hh⟩ := hP
  have hx := Bd.exec
  have hby := Bd.bytes
  have hml : c.maxLocals = 2 := hml0
  have hown : s.vm.findClass "java/lang/Math" = some m.cls := findClass_of_methodNamed Bd.named
  have hnm := (name_of_methodNamed Bd.named Bd.method).1
  have hlk : meth.locks = false := Bd.notSynchronized
  have X0 : Stand p l e ({ frames := 0, cells := 0, slots := 0, locals := 0 } : Room) s m #[(.int p1), (.int p2)] below meth c s₁ [] 0 0 := Stand.of_body Bd
  have e0 : s₁.heap = h0 := by rw [← hh, Bd.state]; rfl
  have N0 := Fr.nil n0
  refine OGo.enter (P := OPost s (own_Q_rm3 Z p1 p2 r h0 n0) 0 0) (own_ef_rm3 m p1 p2) ?_
  show OGo p.tables e below _ (s₁.setTop (mkF m 0 #[.val (.int p1), .val (.int p2)] []))
  refine OGo.st (fun _ k_ => XS.iloadN X0.here hx rfl (hb hby own_d_jdk_29_method_69_code_0) rfl k_) ?_
  show OGo p.tables e below _ (s₁.setTop (mkF m 1 #[.val (.int p1), .val (.int p2)] [(.int p1)]))
  refine OGo.st (fun _ k_ => XS.iloadN X0.here hx rfl (hb hby own_d_jdk_29_method_69_code_1) rfl k_) ?_
  show OGo p.tables e below _ (s₁.setTop (mkF m 2 #[.val (.int p1), .val (.int p2)] [(.int p2), (.int p1)]))
  by_cases hc2 : p2 < p1
  · refine OGo.st (fun _ k_ => XS.icmpYes X0.here hx rfl (pc0 := 2) (pc' := 9) rfl (hb hby own_d_jdk_29_method_69_code_2) rfl (XT.ii_gt_t hc2) (by decide) (by decide) k_) ?_
    show OGo p.tables e below _ (s₁.setTop (mkF m 9 #[.val (.int p1), .val (.int p2)] []))
    refine OGo.st (fun _ k_ => XS.iloadN X0.here hx rfl (hb hby own_d_jdk_29_method_69_code_9) rfl k_) ?_
    show OGo p.tables e below _ (s₁.setTop (mkF m 10 #[.val (.int p1), .val (.int p2)] [(.int p2)]))
    refine OGo.fin X0 (v := some (.int p2)) (fun h => by rw [Bd.returns] at h; cases h) hlk (fun fs hr => X0.ireturnOut hx Bd.returns rfl (Or.inl rfl) (hb hby own_d_jdk_29_method_69_code_10) hr) ?_ (by decide) (by decide)
    show own_Q_rm3 Z p1 p2 r h0 n0 _ s₁.heap _
    rw [e0]
    exact ⟨by rw [← hr]; simp [own_min, hc2], N0, rfl⟩
  · refine OGo.st (fun _ k_ => XS.icmpNo X0.here hx rfl (hb hby own_d_jdk_29_method_69_code_2) rfl (XT.ii_gt_f hc2) k_) ?_
    show OGo p.tables e below _ (s₁.setTop (mkF m 5 #[.val (.int p1), .val (.int p2)] []))
    refine OGo.st (fun _ k_ => XS.iloadN X0.here hx rfl (hb hby own_d_jdk_29_method_69_code_5) rfl k_) ?_
    show OGo p.tables e below _ (s₁.setTop (mkF m 6 #[.val (.int p1), .val (.int p2)] [(.int p1)]))
    refine OGo.st (fun _ k_ => XS.goto X0.here hx rfl (pc0 := 6) (pc' := 10) rfl (hb hby own_d_jdk_29_method_69_code_6) (by decide) (by decide) k_) ?_
    show OGo p.tables e below _ (s₁.setTop (mkF m 10 #[.val (.int p1), .val (.int p2)] [(.int p1)]))
    refine OGo.fin X0 (v := some (.int p1)) (fun h => by rw [Bd.returns] at h; cases h) hlk (fun fs hr => X0.ireturnOut hx Bd.returns rfl (Or.inl rfl) (hb hby own_d_jdk_29_method_69_code_10) hr) ?_ (by decide) (by decide)
    show own_Q_rm3 Z p1 p2 r h0 n0 _ s₁.heap _
    rw [e0]
    exact ⟨by rw [← hr]; simp [own_min, hc2], N0, rfl⟩
theorem own_d_jdk_65_method_121_code_0 : decode jdk_65_method_121_code 0 = .ok (.iload_n 1, 1) := by decide +kernel
theorem own_d_jdk_65_method_121_code_1 : decode jdk_65_method_121_code 1 = .ok (.aload_n 0, 1) := by decide +kernel
theorem own_d_jdk_65_method_121_code_2 : decode jdk_65_method_121_code 2 = .ok (.arraylength, 1) := by decide +kernel
theorem own_d_jdk_65_method_121_code_3 : decode jdk_65_method_121_code 3 = .ok (.if_icmp .ne 11, 3) := by decide +kernel
theorem own_d_jdk_65_method_121_code_14 : decode jdk_65_method_121_code 14 = .ok (.iload_n 1, 1) := by decide +kernel
theorem own_d_jdk_65_method_121_code_15 : decode jdk_65_method_121_code 15 = .ok (.newarray .byte, 2) := by decide +kernel
theorem own_d_jdk_65_method_121_code_17 : decode jdk_65_method_121_code 17 = .ok (.astore_n 2, 1) := by decide +kernel
theorem own_d_jdk_65_method_121_code_18 : decode jdk_65_method_121_code 18 = .ok (.aload_n 0, 1) := by decide +kernel
theorem own_d_jdk_65_method_121_code_19 : decode jdk_65_method_121_code 19 = .ok (.iconst 0, 1) := by decide +kernel
theorem own_d_jdk_65_method_121_code_20 : decode jdk_65_method_121_code 20 = .ok (.aload_n 2, 1) := by decide +kernel
theorem own_d_jdk_65_method_121_code_21 : decode jdk_65_method_121_code 21 = .ok (.iconst 0, 1) := by decide +kernel
theorem own_d_jdk_65_method_121_code_22 : decode jdk_65_method_121_code 22 = .ok (.aload_n 0, 1) := by decide +kernel
theorem own_d_jdk_65_method_121_code_23 : decode jdk_65_method_121_code 23 = .ok (.arraylength, 1) := by decide +kernel
theorem own_d_jdk_65_method_121_code_24 : decode jdk_65_method_121_code 24 = .ok (.iload_n 1, 1) := by decide +kernel
theorem own_d_jdk_65_method_121_code_25 : decode jdk_65_method_121_code 25 = .ok (.invokestatic 304, 3) := by decide +kernel
theorem own_pd0 : parseMethodDescriptor "(II)I" = some ⟨[.int, .int], some .int⟩ := by decide +kernel
theorem own_d_jdk_65_method_121_code_28 : decode jdk_65_method_121_code 28 = .ok (.invokestatic 150, 3) := by decide +kernel
theorem own_d_jdk_65_method_121_code_31 : decode jdk_65_method_121_code 31 = .ok (.aload_n 2, 1) := by decide +kernel
theorem own_d_jdk_65_method_121_code_32 : decode jdk_65_method_121_code 32 = .ok (.areturn, 1) := by decide +kernel
theorem own_pn1 : plainName "java/util/Arrays" = true := by first | (simp [plainName, overriddenIn]; done) | decide +kernel
theorem own_ef_rm4 (m : MethodId) (x0 : Addr) (x1 : Int32) : entryFrame m #[(.ref x0), (.int x1)] 3 = mkF m 0 #[.val (.ref x0), .val (.int x1), .unset] [] := by first | (simp [entryFrame, mkF, argsToLocals, Value.category]; done) | rfl
def own_Q_rm4 (Z : State) (c1 : Addr) (k1 : ClassId) (f : Nat → Value) (h0 : Heap) (n0 : Nat) (v : Option Value) (h : Heap) (L : List Loc) : Prop := ∃ (b : Addr) (k : ClassId) (f2 : Nat → Value), v = some (.ref b) ∧ Fr n0 L ∧ Keep h0 h [] ∧ h0.size ≤ b ∧ Arf Z h b k .byte 32 f2
set_option maxRecDepth 65536 in
set_option maxHeartbeats 40000000 in
theorem rm4 (l : Launch) (Z : State) (a0 : Array Value) (hw : ∀ d ∈ tables_1, d.before a0 Z = true) (ws : List Jvm.Cond) (c1 : Addr) (k1 : ClassId) (f : Nat → Value) (h0 : Heap) (n0 : Nat) (Z0 : n0 ≤ h0.size) (A_c1 : Arf Z h0 c1 k1 .byte 16 f) :
    OMet l Z (⟨"java/util/Arrays", "copyOf", "([BI)[B"⟩ : MethodName) jdk_65_method_121_code 3 (some (.array .byte)) ws ({ frames := 1, cells := 1, slots := 32, locals := 18 } : Room) #[(.ref c1), (.int (32 : Int32))] h0 (own_Q_rm4 Z c1 k1 f h0 n0) := by
  refine MetFree.of_bodySF (plainFor_of_name own_pn1) hisR ?_
  intro p e s m args below meth c s₁ Bd hml0 hP hK
  obtain ⟨rfl, hZ, hh⟩ := hP
  have hx := Bd.exec
  have hby := Bd.bytes
  have hml : c.maxLocals = 3 := hml0
  have hown : s.vm.findClass "java/util/Arrays" = some m.cls := findClass_of_methodNamed Bd.named
  have hnm := (name_of_methodNamed Bd.named Bd.method).1
  have hlk : meth.locks = false := Bd.notSynchronized
  have X0 : Stand p l e ({ frames := 1, cells := 1, slots := 32, locals := 18 } : Room) s m #[(.ref c1), (.int (32 : Int32))] below meth c s₁ [] 0 0 := Stand.of_body Bd
  have e0 : s₁.heap = h0 := by rw [← hh, Bd.state]; rfl
  have N0 := Fr.nil n0
  refine OGo.enter (P := OPost s (own_Q_rm4 Z c1 k1 f h0 n0) 1 32) (own_ef_rm4 m c1 (32 : Int32)) ?_
  show OGo p.tables e below _ (s₁.setTop (mkF m 0 #[.val (.ref c1), .val (.int (32 : Int32)), .unset] []))
  refine OGo.st (fun _ k_ => XS.iloadN X0.here hx rfl (hb hby own_d_jdk_65_method_121_code_0) rfl k_) ?_
  show OGo p.tables e below _ (s₁.setTop (mkF m 1 #[.val (.ref c1), .val (.int (32 : Int32)), .unset] [(.int (32 : Int32))]))
  refine OGo.st (fun _ k_ => XS.aloadN X0.here hx rfl (hb hby own_d_jdk_65_method_121_code_1) rfl rfl k_) ?_
  show OGo p.tables e below _ (s₁.setTop (mkF m 2 #[.val (.ref c1), .val (.int (32 : Int32)), .unset] [(.ref c1), (.int (32 : Int32))]))
  have qz1 := own_alen X0 hx hZ e0 A_c1 (g := (mkF m 2 #[.val (.ref c1), .val (.int (32 : Int32)), .unset] [(.ref c1), (.int (32 : Int32))])) rfl rfl (hb hby own_d_jdk_65_method_121_code_2)
  refine OGo.st qz1 ?_
  show OGo p.tables e below _ (s₁.setTop (mkF m 3 #[.val (.ref c1), .val (.int (32 : Int32)), .unset] [(.int (16 : Int32)), (.int (32 : Int32))]))
  refine OGo.st (fun _ k_ => XS.icmpYes X0.here hx rfl (pc0 := 3) (pc' := 14) rfl (hb hby own_d_jdk_65_method_121_code_3) rfl (XT.ii_ne_t (by decide)) (by decide) (by decide) k_) ?_
  show OGo p.tables e below _ (s₁.setTop (mkF m 14 #[.val (.ref c1), .val (.int (32 : Int32)), .unset] []))
  refine OGo.st (fun _ k_ => XS.iloadN X0.here hx rfl (hb hby own_d_jdk_65_method_121_code_14) rfl k_) ?_
  show OGo p.tables e below _ (s₁.setTop (mkF m 15 #[.val (.ref c1), .val (.int (32 : Int32)), .unset] [(.int (32 : Int32))]))
  obtain ⟨T2, hz2, kz2, X2, ez2, Ez2, Az2, st2⟩ := newP X0 hx hZ (hw _ (List.mem_of_getElem? (i := 10) rfl)) e0 (g := (mkF m 15 #[.val (.ref c1), .val (.int (32 : Int32)), .unset] [(.int (32 : Int32))])) rfl (hb hby own_d_jdk_65_method_121_code_15) rfl (by decide) (cap := 32) (by decide) (by decide) (by decide) (by decide)
  obtain ⟨bz2, g2⟩ : ∃ z, z = h0.size := ⟨_, rfl⟩
  rw [← g2] at Az2 st2
  have lt_c1_bz2 : c1 < bz2 := Nat.lt_of_lt_of_le A_c1.lt (Nat.le_of_eq g2.symm)
  have g_bz2 : n0 ≤ bz2 := Nat.le_trans (Nat.le_trans Z0 (Keep.refl h0 []).1) (Nat.le_of_eq g2.symm)
  have sz_bz2 : h0.size ≤ bz2 := Nat.le_trans (Keep.refl h0 []).1 (Nat.le_of_eq g2.symm)
  have Af_3 := A_c1.ext Ez2
  have K_4 : Keep h0 hz2 [] := (Keep.refl h0 []).ext Ez2
  have V_bz2 : Arf Z hz2 bz2 kz2 .byte (32 : Int32) (fun _ => (.int (0 : Int32))) := own_new Az2 (by decide)
  refine OGo.st st2 ?_
  show OGo p.tables e below _ (T2.setTop (mkF m 17 #[.val (.ref c1), .val (.int (32 : Int32)), .unset] [(.ref bz2)]))
  refine OGo.st (fun _ k_ => XS.astoreN X2.here hx rfl (hb hby own_d_jdk_65_method_121_code_17) rfl rfl (l' := #[.val (.ref c1), .val (.int (32 : Int32)), .val (.ref bz2)]) rfl k_) ?_
  show OGo p.tables e below _ (T2.setTop (mkF m 18 #[.val (.ref c1), .val (.int (32 : Int32)), .val (.ref bz2)] []))
  refine OGo.st (fun _ k_ => XS.aloadN X2.here hx rfl (hb hby own_d_jdk_65_method_121_code_18) rfl rfl k_) ?_
  show OGo p.tables e below _ (T2.setTop (mkF m 19 #[.val (.ref c1), .val (.int (32 : Int32)), .val (.ref bz2)] [(.ref c1)]))
  refine OGo.st (fun _ k_ => XS.iconst X2.here hx rfl (hb hby own_d_jdk_65_method_121_code_19) k_) ?_
  show OGo p.tables e below _ (T2.setTop (mkF m 20 #[.val (.ref c1), .val (.int (32 : Int32)), .val (.ref bz2)] [(.int (0 : Int32)), (.ref c1)]))
  refine OGo.st (fun _ k_ => XS.aloadN X2.here hx rfl (hb hby own_d_jdk_65_method_121_code_20) rfl rfl k_) ?_
  show OGo p.tables e below _ (T2.setTop (mkF m 21 #[.val (.ref c1), .val (.int (32 : Int32)), .val (.ref bz2)] [(.ref bz2), (.int (0 : Int32)), (.ref c1)]))
  refine OGo.st (fun _ k_ => XS.iconst X2.here hx rfl (hb hby own_d_jdk_65_method_121_code_21) k_) ?_
  show OGo p.tables e below _ (T2.setTop (mkF m 22 #[.val (.ref c1), .val (.int (32 : Int32)), .val (.ref bz2)] [(.int (0 : Int32)), (.ref bz2), (.int (0 : Int32)), (.ref c1)]))
  refine OGo.st (fun _ k_ => XS.aloadN X2.here hx rfl (hb hby own_d_jdk_65_method_121_code_22) rfl rfl k_) ?_
  show OGo p.tables e below _ (T2.setTop (mkF m 23 #[.val (.ref c1), .val (.int (32 : Int32)), .val (.ref bz2)] [(.ref c1), (.int (0 : Int32)), (.ref bz2), (.int (0 : Int32)), (.ref c1)]))
  have qz5 := own_alen X2 hx hZ ez2 Af_3 (g := (mkF m 23 #[.val (.ref c1), .val (.int (32 : Int32)), .val (.ref bz2)] [(.ref c1), (.int (0 : Int32)), (.ref bz2), (.int (0 : Int32)), (.ref c1)])) rfl rfl (hb hby own_d_jdk_65_method_121_code_23)
  refine OGo.st qz5 ?_
  show OGo p.tables e below _ (T2.setTop (mkF m 24 #[.val (.ref c1), .val (.int (32 : Int32)), .val (.ref bz2)] [(.int (16 : Int32)), (.int (0 : Int32)), (.ref bz2), (.int (0 : Int32)), (.ref c1)]))
  refine OGo.st (fun _ k_ => XS.iloadN X2.here hx rfl (hb hby own_d_jdk_65_method_121_code_24) rfl k_) ?_
  show OGo p.tables e below _ (T2.setTop (mkF m 25 #[.val (.ref c1), .val (.int (32 : Int32)), .val (.ref bz2)] [(.int (32 : Int32)), (.int (16 : Int32)), (.int (0 : Int32)), (.ref bz2), (.int (0 : Int32)), (.ref c1)]))
  obtain ⟨_, _, ⟨T6, Lz6, kz6, nz6⟩, -, X6, ⟨Lc6, hQ6, lz6, yz6, zz6⟩, st6⟩ := Jvm.LawKit.callS X2 hx (y := (⟨"java/lang/Math", "min", "(II)I"⟩ : MethodName)) hown (mvT hZ (hw _ (List.mem_of_getElem? (i := 54) rfl))) (mvT hZ (hw _ (List.mem_of_getElem? (i := 55) rfl))) (mvT hZ (hw _ (List.mem_of_getElem? (i := 48) rfl))) (mvT hZ (hw _ (List.mem_of_getElem? (i := 56) rfl))) (by decide) (backOf (W := 4) (rm3 l Z a0 hw [] (16 : Int32) (32 : Int32) (16 : Int32) hz2 n0 (Nat.le_trans Z0 K_4.1) (by decide)) hZ (hw _ (List.mem_of_getElem? (i := 56) rfl)) (hw _ (List.mem_of_getElem? (i := 48) rfl)) (by decide) (by decide)) (g := (mkF m 25 #[.val (.ref c1), .val (.int (32 : Int32)), .val (.ref bz2)] [(.int (32 : Int32)), (.int (16 : Int32)), (.int (0 : Int32)), (.ref bz2), (.int (0 : Int32)), (.ref c1)])) rfl (by rw [hml]; rfl) (argsL := [(.int (16 : Int32)), (.int (32 : Int32))]) (rest := [(.int (0 : Int32)), (.ref bz2), (.int (0 : Int32)), (.ref c1)]) (lenOf own_pd0 rfl) rfl (by show 2 * 0 + _ ≤ _; exact Nat.le_of_eq rfl) (hb hby own_d_jdk_65_method_121_code_25) (fun _ _ => ⟨rfl, ez2, (by decide : 1 + 0 ≤ _), (by decide : 32 + 0 ≤ _)⟩)
  dsimp only [Pt.U, Pt.locs, Pt.cells, Pt.slots] at X6 lz6 yz6 zz6 st6 hQ6
  subst lz6 yz6 zz6
  obtain ⟨rfl, Nq6, ez6⟩ := hQ6
  have N6 := Fr.app N0 Nq6
  refine OGo.st st6 ?_
  show OGo p.tables e below _ (T6.setTop (mkF m 28 #[.val (.ref c1), .val (.int (32 : Int32)), .val (.ref bz2)] [(.int (16 : Int32)), (.int (0 : Int32)), (.ref bz2), (.int (0 : Int32)), (.ref c1)]))
  obtain ⟨T7, hz7, L7, X7, ez7, N7, Kq7, V7, st7⟩ := own_copy X6 hx hZ hown (hw _ (List.mem_of_getElem? (i := 57) rfl)) (hw _ (List.mem_of_getElem? (i := 60) rfl)) (hw _ (List.mem_of_getElem? (i := 58) rfl)) (hw _ (List.mem_of_getElem? (i := 59) rfl)) ez6 Af_3 V_bz2 rfl (sp := (0 : Int32)) (dp := (0 : Int32)) (nn := (16 : Int32)) (by decide) (by decide) (by decide) (by decide) (by decide) N6 g_bz2 (g := (mkF m 28 #[.val (.ref c1), .val (.int (32 : Int32)), .val (.ref bz2)] [(.int (16 : Int32)), (.int (0 : Int32)), (.ref bz2), (.int (0 : Int32)), (.ref c1)])) rfl (by rw [hml]; rfl) rfl (hb hby own_d_jdk_65_method_121_code_28) (by decide) (W := 0) (by show 2 * 0 + _ ≤ _; exact Nat.le_of_eq rfl) (by decide)
  have Af_8 := Af_3.keep Kq7 (ninS (Nat.ne_of_lt lt_c1_bz2) nin0)
  have K_9 : Keep h0 hz7 [] := K_4.trans Kq7 (allS (Or.inr sz_bz2) all0)
  refine OGo.st st7 ?_
  show OGo p.tables e below _ (T7.setTop (mkF m 31 #[.val (.ref c1), .val (.int (32 : Int32)), .val (.ref bz2)] []))
  refine OGo.st (fun _ k_ => XS.aloadN X7.here hx rfl (hb hby own_d_jdk_65_method_121_code_31) rfl rfl k_) ?_
  show OGo p.tables e below _ (T7.setTop (mkF m 32 #[.val (.ref c1), .val (.int (32 : Int32)), .val (.ref bz2)] [(.ref bz2)]))
  refine OGo.fin X7 (v := some (.ref bz2)) (fun h => by rw [Bd.returns] at h; cases h) hlk (fun fs hr => X7.areturnOut hx rfl Bd.returns rfl (hb hby own_d_jdk_65_method_121_code_32) hr) ?_ (by decide) (by decide)
  show own_Q_rm4 Z c1 k1 f h0 n0 _ T7.heap _
  rw [ez7]
  exact ⟨_, _, _, rfl, N7, K_9, sz_bz2, V7⟩
theorem own_d_prog_43_method_7_code_0 : decode prog_43_method_7_code 0 = .ok (.aload_n 0, 1) := by decide +kernel
theorem own_d_prog_43_method_7_code_1 : decode prog_43_method_7_code 1 = .ok (.getfield 39, 3) := by decide +kernel
theorem own_d_prog_43_method_7_code_4 : decode prog_43_method_7_code 4 = .ok (.iload_n 1, 1) := by decide +kernel
theorem own_d_prog_43_method_7_code_5 : decode prog_43_method_7_code 5 = .ok (.iadd, 1) := by decide +kernel
theorem own_d_prog_43_method_7_code_6 : decode prog_43_method_7_code 6 = .ok (.aload_n 0, 1) := by decide +kernel
theorem own_d_prog_43_method_7_code_7 : decode prog_43_method_7_code 7 = .ok (.getfield 7, 3) := by decide +kernel
theorem own_d_prog_43_method_7_code_10 : decode prog_43_method_7_code 10 = .ok (.arraylength, 1) := by decide +kernel
theorem own_d_prog_43_method_7_code_11 : decode prog_43_method_7_code 11 = .ok (.if_icmp .le 30, 3) := by decide +kernel
theorem own_d_prog_43_method_7_code_41 : decode prog_43_method_7_code 41 = .ok (.return_, 1) := by decide +kernel
theorem own_ef_rm5 (m : MethodId) (x0 : Addr) (x1 : Int32) : entryFrame m #[(.ref x0), (.int x1)] 2 = mkF m 0 #[.val (.ref x0), .val (.int x1)] [] := by first | (simp [entryFrame, mkF, argsToLocals, Value.category]; done) | rfl
def own_Q_rm5 (Z : State) (a1 : Addr) (b1 : Addr) (k1 : ClassId) (f : Nat → Value) (sz : Int32) (n : Int32) (h0 : Heap) (n0 : Nat) (v : Option Value) (h : Heap) (L : List Loc) : Prop := v = none ∧ Fr n0 L ∧ h = h0
set_option maxRecDepth 65536 in
set_option maxHeartbeats 40000000 in
theorem rm5 (l : Launch) (Z : State) (a0 : Array Value) (hw : ∀ d ∈ tables_1, d.before a0 Z = true) (ws : List Jvm.Cond) (a1 : Addr) (b1 : Addr) (k1 : ClassId) (f : Nat → Value) (sz : Int32) (n : Int32) (h0 : Heap) (n0 : Nat) (Z0 : n0 ≤ h0.size) (E_a1 : Exa Z h0 a1 "com/example/cari/cari/index/Encoder") (F_bytes_a1 : Fld Z h0 a1 "com/example/cari/cari/index/Encoder" "bytes" "[B" (.ref b1)) (F_size_a1 : Fld Z h0 a1 "com/example/cari/cari/index/Encoder" "size" "I" (.int sz)) (g_a1 : n0 ≤ a1) (A_b1 : Arf Z h0 b1 k1 .byte n f) (g_b1 : n0 ≤ b1) (ne_a1_b1 : a1 ≠ b1) (hs1 : ¬ n < sz + 1) :
    OMet l Z (⟨"com/example/cari/cari/index/Encoder", "ensureRoom", "(I)V"⟩ : MethodName) prog_43_method_7_code 2 none ws ({ frames := 0, cells := 0, slots := 0, locals := 0 } : Room) #[(.ref a1), (.int (1 : Int32))] h0 (own_Q_rm5 Z a1 b1 k1 f sz n h0 n0) := by
  refine MetFree.of_bodySF (plainFor_of_name own_pn0) hisR ?_
  intro p e s m args below meth c s₁ Bd hml0 hP hK
  obtain ⟨rfl, hZ, hh⟩ := hP
  have hx := Bd.exec
  have hby := Bd.bytes
  have hml : c.maxLocals = 2 := hml0
  have hown : s.vm.findClass "com/example/cari/cari/index/Encoder" = some m.cls := findClass_of_methodNamed Bd.named
  have hnm := (name_of_methodNamed Bd.named Bd.method).1
  have hlk : meth.locks = false := Bd.notSynchronized
  have X0 : Stand p l e ({ frames := 0, cells := 0, slots := 0, locals := 0 } : Room) s m #[(.ref a1), (.int (1 : Int32))] below meth c s₁ [] 0 0 := Stand.of_body Bd
  have e0 : s₁.heap = h0 := by rw [← hh, Bd.state]; rfl
  have N0 := Fr.nil n0
  refine OGo.enter (P := OPost s (own_Q_rm5 Z a1 b1 k1 f sz n h0 n0) 0 0) (own_ef_rm5 m a1 (1 : Int32)) ?_
  show OGo p.tables e below _ (s₁.setTop (mkF m 0 #[.val (.ref a1), .val (.int (1 : Int32))] []))
  refine OGo.st (fun _ k_ => XS.aloadN X0.here hx rfl (hb hby own_d_prog_43_method_7_code_0) rfl rfl k_) ?_
  show OGo p.tables e below _ (s₁.setTop (mkF m 1 #[.val (.ref a1), .val (.int (1 : Int32))] [(.ref a1)]))
  obtain ⟨T1, X1, ez1, st1⟩ := getF X0 hx hZ hown (host := "") (Or.inl (hw _ (List.mem_of_getElem? (i := 27) rfl))) Via.refl e0 F_size_a1 (g := (mkF m 1 #[.val (.ref a1), .val (.int (1 : Int32))] [(.ref a1)])) rfl rfl (hb hby own_d_prog_43_method_7_code_1)
  refine OGo.st st1 ?_
  show OGo p.tables e below _ (T1.setTop (mkF m 4 #[.val (.ref a1), .val (.int (1 : Int32))] [(.int sz)]))
  refine OGo.st (fun _ k_ => XS.iloadN X1.here hx rfl (hb hby own_d_prog_43_method_7_code_4) rfl k_) ?_
  show OGo p.tables e below _ (T1.setTop (mkF m 5 #[.val (.ref a1), .val (.int (1 : Int32))] [(.int (1 : Int32)), (.int sz)]))
  refine OGo.st (fun _ k_ => XS.iadd X1.here hx rfl (hb hby own_d_prog_43_method_7_code_5) rfl k_) ?_
  show OGo p.tables e below _ (T1.setTop (mkF m 6 #[.val (.ref a1), .val (.int (1 : Int32))] [(.int (sz + (1 : Int32)))]))
  refine OGo.st (fun _ k_ => XS.aloadN X1.here hx rfl (hb hby own_d_prog_43_method_7_code_6) rfl rfl k_) ?_
  show OGo p.tables e below _ (T1.setTop (mkF m 7 #[.val (.ref a1), .val (.int (1 : Int32))] [(.ref a1), (.int (sz + (1 : Int32)))]))
  obtain ⟨T2, X2, ez2, st2⟩ := getF X1 hx hZ hown (host := "") (Or.inl (hw _ (List.mem_of_getElem? (i := 11) rfl))) Via.refl ez1 F_bytes_a1 (g := (mkF m 7 #[.val (.ref a1), .val (.int (1 : Int32))] [(.ref a1), (.int (sz + (1 : Int32)))])) rfl rfl (hb hby own_d_prog_43_method_7_code_7)
  refine OGo.st st2 ?_
  show OGo p.tables e below _ (T2.setTop (mkF m 10 #[.val (.ref a1), .val (.int (1 : Int32))] [(.ref b1), (.int (sz + (1 : Int32)))]))
  have qz3 := own_alen X2 hx hZ ez2 A_b1 (g := (mkF m 10 #[.val (.ref a1), .val (.int (1 : Int32))] [(.ref b1), (.int (sz + (1 : Int32)))])) rfl rfl (hb hby own_d_prog_43_method_7_code_10)
  refine OGo.st qz3 ?_
  show OGo p.tables e below _ (T2.setTop (mkF m 11 #[.val (.ref a1), .val (.int (1 : Int32))] [(.int n), (.int (sz + (1 : Int32)))]))
  refine OGo.st (fun _ k_ => XS.icmpYes X2.here hx rfl (pc0 := 11) (pc' := 41) rfl (hb hby own_d_prog_43_method_7_code_11) rfl (XT.ii_le_t hs1) (by decide) (by decide) k_) ?_
  show OGo p.tables e below _ (T2.setTop (mkF m 41 #[.val (.ref a1), .val (.int (1 : Int32))] []))
  refine OGo.fin X2 (v := none) (fun _ => rfl) hlk (fun fs hr => X2.returnOut hx Bd.returns (hb hby own_d_prog_43_method_7_code_41) hr) ?_ (by decide) (by decide)
  show own_Q_rm5 Z a1 b1 k1 f sz n h0 n0 _ T2.heap _
  rw [ez2]
  exact ⟨rfl, N0, rfl⟩
theorem own_d_prog_43_method_7_code_14 : decode prog_43_method_7_code 14 = .ok (.aload_n 0, 1) := by decide +kernel
theorem own_d_prog_43_method_7_code_15 : decode prog_43_method_7_code 15 = .ok (.aload_n 0, 1) := by decide +kernel
theorem own_d_prog_43_method_7_code_16 : decode prog_43_method_7_code 16 = .ok (.getfield 7, 3) := by decide +kernel
theorem own_d_prog_43_method_7_code_19 : decode prog_43_method_7_code 19 = .ok (.iconst 2, 1) := by decide +kernel
theorem own_d_prog_43_method_7_code_20 : decode prog_43_method_7_code 20 = .ok (.aload_n 0, 1) := by decide +kernel
theorem own_d_prog_43_method_7_code_21 : decode prog_43_method_7_code 21 = .ok (.getfield 7, 3) := by decide +kernel
theorem own_d_prog_43_method_7_code_24 : decode prog_43_method_7_code 24 = .ok (.arraylength, 1) := by decide +kernel
theorem own_d_prog_43_method_7_code_25 : decode prog_43_method_7_code 25 = .ok (.imul, 1) := by decide +kernel
theorem own_d_prog_43_method_7_code_26 : decode prog_43_method_7_code 26 = .ok (.aload_n 0, 1) := by decide +kernel
theorem own_d_prog_43_method_7_code_27 : decode prog_43_method_7_code 27 = .ok (.getfield 39, 3) := by decide +kernel
theorem own_d_prog_43_method_7_code_30 : decode prog_43_method_7_code 30 = .ok (.iload_n 1, 1) := by decide +kernel
theorem own_d_prog_43_method_7_code_31 : decode prog_43_method_7_code 31 = .ok (.iadd, 1) := by decide +kernel
theorem own_d_prog_43_method_7_code_32 : decode prog_43_method_7_code 32 = .ok (.invokestatic 55, 3) := by decide +kernel
theorem own_d_prog_43_method_7_code_35 : decode prog_43_method_7_code 35 = .ok (.invokestatic 61, 3) := by decide +kernel
theorem own_pd1 : parseMethodDescriptor "([BI)[B" = some ⟨[(.array .byte), .int], some (.array .byte)⟩ := by decide +kernel
theorem own_d_prog_43_method_7_code_38 : decode prog_43_method_7_code 38 = .ok (.putfield 7, 3) := by decide +kernel
theorem own_ef_rm6 (m : MethodId) (x0 : Addr) (x1 : Int32) : entryFrame m #[(.ref x0), (.int x1)] 2 = mkF m 0 #[.val (.ref x0), .val (.int x1)] [] := by first | (simp [entryFrame, mkF, argsToLocals, Value.category]; done) | rfl
def own_Q_rm6 (Z : State) (a1 : Addr) (b1 : Addr) (k1 : ClassId) (f : Nat → Value) (h0 : Heap) (n0 : Nat) (v : Option Value) (h : Heap) (L : List Loc) : Prop := v = none ∧ Fr n0 L ∧ Keep h0 h [a1] ∧ ∃ (b : Addr) (k : ClassId) (f2 : Nat → Value), h0.size ≤ b ∧ Fld Z h a1 "com/example/cari/cari/index/Encoder" "bytes" "[B" (.ref b) ∧ Fld Z h a1 "com/example/cari/cari/index/Encoder" "size" "I" (.int (16 : Int32)) ∧ Arf Z h b k .byte 32 f2
set_option maxRecDepth 65536 in
set_option maxHeartbeats 40000000 in
theorem rm6 (l : Launch) (Z : State) (a0 : Array Value) (hw : ∀ d ∈ tables_1, d.before a0 Z = true) (ws : List Jvm.Cond) (a1 : Addr) (b1 : Addr) (k1 : ClassId) (f : Nat → Value) (h0 : Heap) (n0 : Nat) (Z0 : n0 ≤ h0.size) (E_a1 : Exa Z h0 a1 "com/example/cari/cari/index/Encoder") (F_bytes_a1 : Fld Z h0 a1 "com/example/cari/cari/index/Encoder" "bytes" "[B" (.ref b1)) (F_size_a1 : Fld Z h0 a1 "com/example/cari/cari/index/Encoder" "size" "I" (.int (16 : Int32))) (g_a1 : n0 ≤ a1) (A_b1 : Arf Z h0 b1 k1 .byte 16 f) (g_b1 : n0 ≤ b1) (ne_a1_b1 : a1 ≠ b1) :
    OMet l Z (⟨"com/example/cari/cari/index/Encoder", "ensureRoom", "(I)V"⟩ : MethodName) prog_43_method_7_code 2 none ws ({ frames := 2, cells := 1, slots := 32, locals := 33 } : Room) #[(.ref a1), (.int (1 : Int32))] h0 (own_Q_rm6 Z a1 b1 k1 f h0 n0) := by
  refine MetFree.of_bodySF (plainFor_of_name own_pn0) hisR ?_
  intro p e s m args below meth c s₁ Bd hml0 hP hK
  obtain ⟨rfl, hZ, hh⟩ := hP
  have hx := Bd.exec
  have hby := Bd.bytes
  have hml : c.maxLocals = 2 := hml0
  have hown : s.vm.findClass "com/example/cari/cari/index/Encoder" = some m.cls := findClass_of_methodNamed Bd.named
  have hnm := (name_of_methodNamed Bd.named Bd.method).1
  have hlk : meth.locks = false := Bd.notSynchronized
  have X0 : Stand p l e ({ frames := 2, cells := 1, slots := 32, locals := 33 } : Room) s m #[(.ref a1), (.int (1 : Int32))] below meth c s₁ [] 0 0 := Stand.of_body Bd
  have e0 : s₁.heap = h0 := by rw [← hh, Bd.state]; rfl
  have N0 := Fr.nil n0
  refine OGo.enter (P := OPost s (own_Q_rm6 Z a1 b1 k1 f h0 n0) 1 32) (own_ef_rm6 m a1 (1 : Int32)) ?_
  show OGo p.tables e below _ (s₁.setTop (mkF m 0 #[.val (.ref a1), .val (.int (1 : Int32))] []))
  refine OGo.st (fun _ k_ => XS.aloadN X0.here hx rfl (hb hby own_d_prog_43_method_7_code_0) rfl rfl k_) ?_
  show OGo p.tables e below _ (s₁.setTop (mkF m 1 #[.val (.ref a1), .val (.int (1 : Int32))] [(.ref a1)]))
  obtain ⟨T1, X1, ez1, st1⟩ := getF X0 hx hZ hown (host := "") (Or.inl (hw _ (List.mem_of_getElem? (i := 27) rfl))) Via.refl e0 F_size_a1 (g := (mkF m 1 #[.val (.ref a1), .val (.int (1 : Int32))] [(.ref a1)])) rfl rfl (hb hby own_d_prog_43_method_7_code_1)
  refine OGo.st st1 ?_
  show OGo p.tables e below _ (T1.setTop (mkF m 4 #[.val (.ref a1), .val (.int (1 : Int32))] [(.int (16 : Int32))]))
  refine OGo.st (fun _ k_ => XS.iloadN X1.here hx rfl (hb hby own_d_prog_43_method_7_code_4) rfl k_) ?_
  show OGo p.tables e below _ (T1.setTop (mkF m 5 #[.val (.ref a1), .val (.int (1 : Int32))] [(.int (1 : Int32)), (.int (16 : Int32))]))
  refine OGo.st (fun _ k_ => XS.iadd X1.here hx rfl (hb hby own_d_prog_43_method_7_code_5) rfl k_) ?_
  show OGo p.tables e below _ (T1.setTop (mkF m 6 #[.val (.ref a1), .val (.int (1 : Int32))] [(.int ((16 : Int32) + (1 : Int32)))]))
  refine OGo.st (fun _ k_ => XS.aloadN X1.here hx rfl (hb hby own_d_prog_43_method_7_code_6) rfl rfl k_) ?_
  show OGo p.tables e below _ (T1.setTop (mkF m 7 #[.val (.ref a1), .val (.int (1 : Int32))] [(.ref a1), (.int ((16 : Int32) + (1 : Int32)))]))
  obtain ⟨T2, X2, ez2, st2⟩ := getF X1 hx hZ hown (host := "") (Or.inl (hw _ (List.mem_of_getElem? (i := 11) rfl))) Via.refl ez1 F_bytes_a1 (g := (mkF m 7 #[.val (.ref a1), .val (.int (1 : Int32))] [(.ref a1), (.int ((16 : Int32) + (1 : Int32)))])) rfl rfl (hb hby own_d_prog_43_method_7_code_7)
  refine OGo.st st2 ?_
  show OGo p.tables e below _ (T2.setTop (mkF m 10 #[.val (.ref a1), .val (.int (1 : Int32))] [(.ref b1), (.int ((16 : Int32) + (1 : Int32)))]))
  have qz3 := own_alen X2 hx hZ ez2 A_b1 (g := (mkF m 10 #[.val (.ref a1), .val (.int (1 : Int32))] [(.ref b1), (.int ((16 : Int32) + (1 : Int32)))])) rfl rfl (hb hby own_d_prog_43_method_7_code_10)
  refine OGo.st qz3 ?_
  show OGo p.tables e below _ (T2.setTop (mkF m 11 #[.val (.ref a1), .val (.int (1 : Int32))] [(.int (16 : Int32)), (.int ((16 : Int32) + (1 : Int32)))]))
  refine OGo.st (fun _ k_ => XS.icmpNo X2.here hx rfl (hb hby own_d_prog_43_method_7_code_11) rfl (XT.ii_le_f (by decide)) k_) ?_
  show OGo p.tables e below _ (T2.setTop (mkF m 14 #[.val (.ref a1), .val (.int (1 : Int32))] []))
  refine OGo.st (fun _ k_ => XS.aloadN X2.here hx rfl (hb hby own_d_prog_43_method_7_code_14) rfl rfl k_) ?_
  show OGo p.tables e below _ (T2.setTop (mkF m 15 #[.val (.ref a1), .val (.int (1 : Int32))] [(.ref a1)]))
  refine OGo.st (fun _ k_ => XS.aloadN X2.here hx rfl (hb hby own_d_prog_43_method_7_code_15) rfl rfl k_) ?_
  show OGo p.tables e below _ (T2.setTop (mkF m 16 #[.val (.ref a1), .val (.int (1 : Int32))] [(.ref a1), (.ref a1)]))
  obtain ⟨T4, X4, ez4, st4⟩ := getF X2 hx hZ hown (host := "") (Or.inl (hw _ (List.mem_of_getElem? (i := 11) rfl))) Via.refl ez2 F_bytes_a1 (g := (mkF m 16 #[.val (.ref a1), .val (.int (1 : Int32))] [(.ref a1), (.ref a1)])) rfl rfl (hb hby own_d_prog_43_method_7_code_16)
  refine OGo.st st4 ?_
  show OGo p.tables e below _ (T4.setTop (mkF m 19 #[.val (.ref a1), .val (.int (1 : Int32))] [(.ref b1), (.ref a1)]))
  refine OGo.st (fun _ k_ => XS.iconst X4.here hx rfl (hb hby own_d_prog_43_method_7_code_19) k_) ?_
  show OGo p.tables e below _ (T4.setTop (mkF m 20 #[.val (.ref a1), .val (.int (1 : Int32))] [(.int (2 : Int32)), (.ref b1), (.ref a1)]))
  refine OGo.st (fun _ k_ => XS.aloadN X4.here hx rfl (hb hby own_d_prog_43_method_7_code_20) rfl rfl k_) ?_
  show OGo p.tables e below _ (T4.setTop (mkF m 21 #[.val (.ref a1), .val (.int (1 : Int32))] [(.ref a1), (.int (2 : Int32)), (.ref b1), (.ref a1)]))
  obtain ⟨T5, X5, ez5, st5⟩ := getF X4 hx hZ hown (host := "") (Or.inl (hw _ (List.mem_of_getElem? (i := 11) rfl))) Via.refl ez4 F_bytes_a1 (g := (mkF m 21 #[.val (.ref a1), .val (.int (1 : Int32))] [(.ref a1), (.int (2 : Int32)), (.ref b1), (.ref a1)])) rfl rfl (hb hby own_d_prog_43_method_7_code_21)
  refine OGo.st st5 ?_
  show OGo p.tables e below _ (T5.setTop (mkF m 24 #[.val (.ref a1), .val (.int (1 : Int32))] [(.ref b1), (.int (2 : Int32)), (.ref b1), (.ref a1)]))
  have qz6 := own_alen X5 hx hZ ez5 A_b1 (g := (mkF m 24 #[.val (.ref a1), .val (.int (1 : Int32))] [(.ref b1), (.int (2 : Int32)), (.ref b1), (.ref a1)])) rfl rfl (hb hby own_d_prog_43_method_7_code_24)
  refine OGo.st qz6 ?_
  show OGo p.tables e below _ (T5.setTop (mkF m 25 #[.val (.ref a1), .val (.int (1 : Int32))] [(.int (16 : Int32)), (.int (2 : Int32)), (.ref b1), (.ref a1)]))
  refine OGo.st (fun _ k_ => XS.imul X5.here hx rfl (hb hby own_d_prog_43_method_7_code_25) rfl k_) ?_
  show OGo p.tables e below _ (T5.setTop (mkF m 26 #[.val (.ref a1), .val (.int (1 : Int32))] [(.int ((2 : Int32) * (16 : Int32))), (.ref b1), (.ref a1)]))
  refine OGo.st (fun _ k_ => XS.aloadN X5.here hx rfl (hb hby own_d_prog_43_method_7_code_26) rfl rfl k_) ?_
  show OGo p.tables e below _ (T5.setTop (mkF m 27 #[.val (.ref a1), .val (.int (1 : Int32))] [(.ref a1), (.int ((2 : Int32) * (16 : Int32))), (.ref b1), (.ref a1)]))
  obtain ⟨T7, X7, ez7, st7⟩ := getF X5 hx hZ hown (host := "") (Or.inl (hw _ (List.mem_of_getElem? (i := 27) rfl))) Via.refl ez5 F_size_a1 (g := (mkF m 27 #[.val (.ref a1), .val (.int (1 : Int32))] [(.ref a1), (.int ((2 : Int32) * (16 : Int32))), (.ref b1), (.ref a1)])) rfl rfl (hb hby own_d_prog_43_method_7_code_27)
  refine OGo.st st7 ?_
  show OGo p.tables e below _ (T7.setTop (mkF m 30 #[.val (.ref a1), .val (.int (1 : Int32))] [(.int (16 : Int32)), (.int ((2 : Int32) * (16 : Int32))), (.ref b1), (.ref a1)]))
  refine OGo.st (fun _ k_ => XS.iloadN X7.here hx rfl (hb hby own_d_prog_43_method_7_code_30) rfl k_) ?_
  show OGo p.tables e below _ (T7.setTop (mkF m 31 #[.val (.ref a1), .val (.int (1 : Int32))] [(.int (1 : Int32)), (.int (16 : Int32)), (.int ((2 : Int32) * (16 : Int32))), (.ref b1), (.ref a1)]))
  refine OGo.st (fun _ k_ => XS.iadd X7.here hx rfl (hb hby own_d_prog_43_method_7_code_31) rfl k_) ?_
  show OGo p.tables e below _ (T7.setTop (mkF m 32 #[.val (.ref a1), .val (.int (1 : Int32))] [(.int ((16 : Int32) + (1 : Int32))), (.int ((2 : Int32) * (16 : Int32))), (.ref b1), (.ref a1)]))
  obtain ⟨_, _, ⟨T8, Lz8, kz8, nz8⟩, -, X8, ⟨Lc8, hQ8, lz8, yz8, zz8⟩, st8⟩ := Jvm.LawKit.callS X7 hx (y := (⟨"java/lang/Math", "max", "(II)I"⟩ : MethodName)) hown (mvT hZ (hw _ (List.mem_of_getElem? (i := 46) rfl))) (mvT hZ (hw _ (List.mem_of_getElem? (i := 47) rfl))) (mvT hZ (hw _ (List.mem_of_getElem? (i := 48) rfl))) (mvT hZ (hw _ (List.mem_of_getElem? (i := 49) rfl))) (by decide) (backOf (W := 2) (rm2 l Z a0 hw [] ((2 : Int32) * (16 : Int32)) ((16 : Int32) + (1 : Int32)) (32 : Int32) h0 n0 (Nat.le_trans Z0 (Keep.refl h0 [a1]).1) (by decide)) hZ (hw _ (List.mem_of_getElem? (i := 49) rfl)) (hw _ (List.mem_of_getElem? (i := 48) rfl)) (by decide) (by decide)) (g := (mkF m 32 #[.val (.ref a1), .val (.int (1 : Int32))] [(.int ((16 : Int32) + (1 : Int32))), (.int ((2 : Int32) * (16 : Int32))), (.ref b1), (.ref a1)])) rfl (by rw [hml]; rfl) (argsL := [(.int ((2 : Int32) * (16 : Int32))), (.int ((16 : Int32) + (1 : Int32)))]) (rest := [(.ref b1), (.ref a1)]) (lenOf own_pd0 rfl) rfl (by show 2 * 0 + _ ≤ _; exact Nat.le_of_eq rfl) (hb hby own_d_prog_43_method_7_code_32) (fun _ _ => ⟨rfl, ez7, (by decide : 0 + 0 ≤ _), (by decide : 0 + 0 ≤ _)⟩)
  dsimp only [Pt.U, Pt.locs, Pt.cells, Pt.slots] at X8 lz8 yz8 zz8 st8 hQ8
  subst lz8 yz8 zz8
  obtain ⟨rfl, Nq8, ez8⟩ := hQ8
  have N8 := Fr.app N0 Nq8
  refine OGo.st st8 ?_
  show OGo p.tables e below _ (T8.setTop (mkF m 35 #[.val (.ref a1), .val (.int (1 : Int32))] [(.int (32 : Int32)), (.ref b1), (.ref a1)]))
  obtain ⟨_, _, ⟨T9, Lz9, kz9, nz9⟩, -, X9, ⟨Lc9, hQ9, lz9, yz9, zz9⟩, st9⟩ := Jvm.LawKit.callS X8 hx (y := (⟨"java/util/Arrays", "copyOf", "([BI)[B"⟩ : MethodName)) hown (mvT hZ (hw _ (List.mem_of_getElem? (i := 50) rfl))) (mvT hZ (hw _ (List.mem_of_getElem? (i := 51) rfl))) (mvT hZ (hw _ (List.mem_of_getElem? (i := 52) rfl))) (mvT hZ (hw _ (List.mem_of_getElem? (i := 53) rfl))) (by decide) (backOf (W := 1) (rm4 l Z a0 hw [] b1 k1 f h0 n0 (Nat.le_trans Z0 (Keep.refl h0 [a1]).1) A_b1) hZ (hw _ (List.mem_of_getElem? (i := 53) rfl)) (hw _ (List.mem_of_getElem? (i := 52) rfl)) (by decide) (by decide)) (g := (mkF m 35 #[.val (.ref a1), .val (.int (1 : Int32))] [(.int (32 : Int32)), (.ref b1), (.ref a1)])) rfl (by rw [hml]; rfl) (argsL := [(.ref b1), (.int (32 : Int32))]) (rest := [(.ref a1)]) (lenOf own_pd1 rfl) rfl (by show 2 * 0 + _ ≤ _; exact Nat.le_of_eq rfl) (hb hby own_d_prog_43_method_7_code_35) (fun _ _ => ⟨rfl, ez8, (by decide : 0 + 1 ≤ _), (by decide : 0 + 32 ≤ _)⟩)
  dsimp only [Pt.U, Pt.locs, Pt.cells, Pt.slots] at X9 lz9 yz9 zz9 st9 hQ9
  subst lz9 yz9 zz9
  obtain ⟨nb9, kn9, fn9, rfl, Nq9, Kq9, szn9, An9⟩ := hQ9
  have N9 := Fr.app N8 Nq9
  have ne_a1_nb9 : a1 ≠ nb9 := Nat.ne_of_lt (Nat.lt_of_lt_of_le E_a1.lt szn9)
  have ne_b1_nb9 : b1 ≠ nb9 := Nat.ne_of_lt (Nat.lt_of_lt_of_le A_b1.lt szn9)
  have g_nb9 : n0 ≤ nb9 := Nat.le_trans (Nat.le_trans Z0 (Keep.refl h0 [a1]).1) szn9
  have sz_nb9 : h0.size ≤ nb9 := Nat.le_trans (Keep.refl h0 [a1]).1 szn9
  have Ex_10 := E_a1.keep Kq9
  have F_11 := F_bytes_a1.keep Kq9 nin0
  have F_12 := F_size_a1.keep Kq9 nin0
  have Af_13 := A_b1.keep Kq9 nin0
  have K_14 : Keep h0 T9.heap [a1] := (Keep.refl h0 [a1]).trans Kq9 all0
  refine OGo.st st9 ?_
  show OGo p.tables e below _ (T9.setTop (mkF m 38 #[.val (.ref a1), .val (.int (1 : Int32))] [(.ref nb9), (.ref a1)]))
  obtain ⟨T15, hz15, X15, ez15, W15, st15⟩ := putF X9 hx hZ hown (host := "") (Or.inl (hw _ (List.mem_of_getElem? (i := 11) rfl))) Via.refl rfl F_11 Ex_10 (Or.inl (hw _ (List.mem_of_getElem? (i := 12) rfl))) (hw _ (List.mem_of_getElem? (i := 2) rfl)) (ty := (.array .byte)) (by decide) rfl rfl (g := (mkF m 38 #[.val (.ref a1), .val (.int (1 : Int32))] [(.ref nb9), (.ref a1)])) rfl rfl (hb hby own_d_prog_43_method_7_code_38)
  have Fw15 : Fld Z hz15 a1 "com/example/cari/cari/index/Encoder" "bytes" "[B" (.ref nb9) := F_11.same W15
  have Ex_16 := Ex_10.wr W15
  have F_17 := F_12.other W15 (Or.inr (slot_ne (Or.inl (hw _ (List.mem_of_getElem? (i := 28) rfl))) (Or.inl (hw _ (List.mem_of_getElem? (i := 12) rfl))) (by decide) (t := .int) (t' := (.array .byte)) (by decide) (by decide)))
  have Af_18 := Af_13.other W15 (Ne.symm ne_a1_b1)
  have Af_19 := An9.other W15 (Ne.symm ne_a1_nb9)
  have N15 := Fr.snoc X15 N9 g_a1
  have K_20 : Keep h0 hz15 [a1] := K_14.wr W15 (Or.inl (List.mem_of_getElem? (i := 0) rfl))
  refine OGo.st st15 ?_
  show OGo p.tables e below _ (T15.setTop (mkF m 41 #[.val (.ref a1), .val (.int (1 : Int32))] []))
  refine OGo.fin X15 (v := none) (fun _ => rfl) hlk (fun fs hr => X15.returnOut hx Bd.returns (hb hby own_d_prog_43_method_7_code_41) hr) ?_ (by decide) (by decide)
  show own_Q_rm6 Z a1 b1 k1 f h0 n0 _ T15.heap _
  rw [ez15]
  exact ⟨rfl, N15, K_20, _, _, _, sz_nb9, Fw15, F_17, Af_19⟩
theorem own_d_prog_43_method_6_code_0 : decode prog_43_method_6_code 0 = .ok (.aload_n 0, 1) := by decide +kernel
theorem own_d_prog_43_method_6_code_1 : decode prog_43_method_6_code 1 = .ok (.iconst 1, 1) := by decide +kernel
theorem own_d_prog_43_method_6_code_2 : decode prog_43_method_6_code 2 = .ok (.invokevirtual 35, 3) := by decide +kernel
theorem own_pd2 : parseMethodDescriptor "(I)V" = some ⟨[.int], none⟩ := by decide +kernel
theorem own_sel0 (Z : State) (a0 : Array Value) (hw : ∀ d ∈ tables_1, d.before a0 Z = true) : (Jvm.Cond.selects "com/example/cari/cari/index/Encoder" (⟨"com/example/cari/cari/index/Encoder", "ensureRoom", "(I)V"⟩ : MethodName) (⟨"com/example/cari/cari/index/Encoder", "ensureRoom", "(I)V"⟩ : MethodName)).before a0 Z = true := own_selfsel (y := (⟨"com/example/cari/cari/index/Encoder", "ensureRoom", "(I)V"⟩ : MethodName)) (y0 := (⟨"com/example/cari/cari/index/Encoder", "number", "(J)V"⟩ : MethodName)) (hw _ (List.mem_of_getElem? (i := 16) rfl)) rfl (hw _ (List.mem_of_getElem? (i := 24) rfl)) (hw _ (List.mem_of_getElem? (i := 25) rfl)) (by decide)
theorem own_d_prog_43_method_6_code_5 : decode prog_43_method_6_code 5 = .ok (.aload_n 0, 1) := by decide +kernel
theorem own_d_prog_43_method_6_code_6 : decode prog_43_method_6_code 6 = .ok (.getfield 7, 3) := by decide +kernel
theorem own_d_prog_43_method_6_code_9 : decode prog_43_method_6_code 9 = .ok (.aload_n 0, 1) := by decide +kernel
theorem own_d_prog_43_method_6_code_10 : decode prog_43_method_6_code 10 = .ok (.dup, 1) := by decide +kernel
theorem own_d_prog_43_method_6_code_11 : decode prog_43_method_6_code 11 = .ok (.getfield 39, 3) := by decide +kernel
theorem own_d_prog_43_method_6_code_14 : decode prog_43_method_6_code 14 = .ok (.dup_x1, 1) := by decide +kernel
theorem own_d_prog_43_method_6_code_15 : decode prog_43_method_6_code 15 = .ok (.iconst 1, 1) := by decide +kernel
theorem own_d_prog_43_method_6_code_16 : decode prog_43_method_6_code 16 = .ok (.iadd, 1) := by decide +kernel
theorem own_d_prog_43_method_6_code_17 : decode prog_43_method_6_code 17 = .ok (.putfield 39, 3) := by decide +kernel
theorem own_d_prog_43_method_6_code_20 : decode prog_43_method_6_code 20 = .ok (.iload_n 1, 1) := by decide +kernel
theorem own_d_prog_43_method_6_code_21 : decode prog_43_method_6_code 21 = .ok (.bastore, 1) := by decide +kernel
theorem own_d_prog_43_method_6_code_22 : decode prog_43_method_6_code 22 = .ok (.return_, 1) := by decide +kernel
theorem own_ef_rm7 (m : MethodId) (x0 : Addr) (x1 : Int32) : entryFrame m #[(.ref x0), (.int x1)] 2 = mkF m 0 #[.val (.ref x0), .val (.int x1)] [] := by first | (simp [entryFrame, mkF, argsToLocals, Value.category]; done) | rfl
def own_Q_rm7 (Z : State) (a1 : Addr) (p2 : Int32) (b1 : Addr) (k1 : ClassId) (f : Nat → Value) (sz : Int32) (n : Int32) (h0 : Heap) (n0 : Nat) (v : Option Value) (h : Heap) (L : List Loc) : Prop := v = none ∧ Fr n0 L ∧ n0 ≤ h.size ∧ own_Enc Z h n0 a1 (sz + 1) n
set_option maxRecDepth 65536 in
set_option maxHeartbeats 40000000 in
theorem rm7 (l : Launch) (Z : State) (a0 : Array Value) (hw : ∀ d ∈ tables_1, d.before a0 Z = true) (ws : List Jvm.Cond) (a1 : Addr) (p2 : Int32) (b1 : Addr) (k1 : ClassId) (f : Nat → Value) (sz : Int32) (n : Int32) (h0 : Heap) (n0 : Nat) (Z0 : n0 ≤ h0.size) (E_a1 : Exa Z h0 a1 "com/example/cari/cari/index/Encoder") (F_bytes_a1 : Fld Z h0 a1 "com/example/cari/cari/index/Encoder" "bytes" "[B" (.ref b1)) (F_size_a1 : Fld Z h0 a1 "com/example/cari/cari/index/Encoder" "size" "I" (.int sz)) (g_a1 : n0 ≤ a1) (A_b1 : Arf Z h0 b1 k1 .byte n f) (g_b1 : n0 ≤ b1) (ne_a1_b1 : a1 ≠ b1) (hs0 : 0 ≤ sz.toInt) (hs : sz < n) :
    OMet l Z (⟨"com/example/cari/cari/index/Encoder", "append", "(B)V"⟩ : MethodName) prog_43_method_6_code 2 none ws ({ frames := 1, cells := 0, slots := 0, locals := 13 } : Room) #[(.ref a1), (.int p2)] h0 (own_Q_rm7 Z a1 p2 b1 k1 f sz n h0 n0) := by
  refine MetFree.of_bodySF (plainFor_of_name own_pn0) hisR ?_
  intro p e s m args below meth c s₁ Bd hml0 hP hK
  obtain ⟨rfl, hZ, hh⟩ := hP
  have hx := Bd.exec
  have hby := Bd.bytes
  have hml : c.maxLocals = 2 := hml0
  have hown : s.vm.findClass "com/example/cari/cari/index/Encoder" = some m.cls := findClass_of_methodNamed Bd.named
  have hnm := (name_of_methodNamed Bd.named Bd.method).1
  have hlk : meth.locks = false := Bd.notSynchronized
  have X0 : Stand p l e ({ frames := 1, cells := 0, slots := 0, locals := 13 } : Room) s m #[(.ref a1), (.int p2)] below meth c s₁ [] 0 0 := Stand.of_body Bd
  have e0 : s₁.heap = h0 := by rw [← hh, Bd.state]; rfl
  have N0 := Fr.nil n0
  refine OGo.enter (P := OPost s (own_Q_rm7 Z a1 p2 b1 k1 f sz n h0 n0) 0 0) (own_ef_rm7 m a1 p2) ?_
  show OGo p.tables e below _ (s₁.setTop (mkF m 0 #[.val (.ref a1), .val (.int p2)] []))
  refine OGo.st (fun _ k_ => XS.aloadN X0.here hx rfl (hb hby own_d_prog_43_method_6_code_0) rfl rfl k_) ?_
  show OGo p.tables e below _ (s₁.setTop (mkF m 1 #[.val (.ref a1), .val (.int p2)] [(.ref a1)]))
  refine OGo.st (fun _ k_ => XS.iconst X0.here hx rfl (hb hby own_d_prog_43_method_6_code_1) k_) ?_
  show OGo p.tables e below _ (s₁.setTop (mkF m 2 #[.val (.ref a1), .val (.int p2)] [(.int (1 : Int32)), (.ref a1)]))
  obtain ⟨cq1, qz1, qz1b⟩ := E_a1.cell
  obtain ⟨_, _, ⟨T1, Lz1, kz1, nz1⟩, -, X1, ⟨Lc1, hQ1, lz1, yz1, zz1⟩, st1⟩ := X0.privateBack hx (y := (⟨"com/example/cari/cari/index/Encoder", "ensureRoom", "(I)V"⟩ : MethodName)) hown (mvT hZ (hw _ (List.mem_of_getElem? (i := 23) rfl))) (mvT hZ (hw _ (List.mem_of_getElem? (i := 24) rfl))) (mvT hZ (own_sel0 Z a0 hw)) (Cond.privateMethod_at (mvP hZ (hw _ (List.mem_of_getElem? (i := 25) rfl)) (args := #[]))) (mvT hZ (hw _ (List.mem_of_getElem? (i := 26) rfl))) (by decide) (backOf (W := 0) (rm5 l Z a0 hw [] a1 b1 k1 f sz n h0 n0 (Nat.le_trans Z0 (Keep.refl h0 [a1, b1]).1) E_a1 F_bytes_a1 F_size_a1 g_a1 A_b1 g_b1 ne_a1_b1 (own_nlt hs0 hs)) hZ (hw _ (List.mem_of_getElem? (i := 26) rfl)) (hw _ (List.mem_of_getElem? (i := 3) rfl)) (by decide) (by decide)) (g := (mkF m 2 #[.val (.ref a1), .val (.int p2)] [(.int (1 : Int32)), (.ref a1)])) rfl (by rw [hml]; rfl) (Steps.refl _) (a := a1) (by rw [e0]; exact qz1) qz1b (argsL := [(.int (1 : Int32))]) (rest := []) (lenOf own_pd2 rfl) rfl (by show 2 * 0 + _ ≤ _; exact Nat.le_of_eq rfl) (hb hby own_d_prog_43_method_6_code_2) (fun _ _ => ⟨rfl, e0, (by decide : 0 + 0 ≤ _), (by decide : 0 + 0 ≤ _)⟩)
  dsimp only [Pt.U, Pt.locs, Pt.cells, Pt.slots] at X1 lz1 yz1 zz1 st1 hQ1
  subst lz1 yz1 zz1
  obtain ⟨rfl, Nq1, ez1⟩ := hQ1
  have N1 := Fr.app N0 Nq1
  refine OGo.tr st1 ?_
  show OGo p.tables e below _ (T1.setTop (mkF m 5 #[.val (.ref a1), .val (.int p2)] []))
  refine OGo.st (fun _ k_ => XS.aloadN X1.here hx rfl (hb hby own_d_prog_43_method_6_code_5) rfl rfl k_) ?_
  show OGo p.tables e below _ (T1.setTop (mkF m 6 #[.val (.ref a1), .val (.int p2)] [(.ref a1)]))
  obtain ⟨T2, X2, ez2, st2⟩ := getF X1 hx hZ hown (host := "") (Or.inl (hw _ (List.mem_of_getElem? (i := 11) rfl))) Via.refl ez1 F_bytes_a1 (g := (mkF m 6 #[.val (.ref a1), .val (.int p2)] [(.ref a1)])) rfl rfl (hb hby own_d_prog_43_method_6_code_6)
  refine OGo.st st2 ?_
  show OGo p.tables e below _ (T2.setTop (mkF m 9 #[.val (.ref a1), .val (.int p2)] [(.ref b1)]))
  refine OGo.st (fun _ k_ => XS.aloadN X2.here hx rfl (hb hby own_d_prog_43_method_6_code_9) rfl rfl k_) ?_
  show OGo p.tables e below _ (T2.setTop (mkF m 10 #[.val (.ref a1), .val (.int p2)] [(.ref a1), (.ref b1)]))
  refine OGo.st (fun _ k_ => XS.dup X2.here hx rfl (hb hby own_d_prog_43_method_6_code_10) rfl rfl k_) ?_
  show OGo p.tables e below _ (T2.setTop (mkF m 11 #[.val (.ref a1), .val (.int p2)] [(.ref a1), (.ref a1), (.ref b1)]))
  obtain ⟨T3, X3, ez3, st3⟩ := getF X2 hx hZ hown (host := "") (Or.inl (hw _ (List.mem_of_getElem? (i := 27) rfl))) Via.refl ez2 F_size_a1 (g := (mkF m 11 #[.val (.ref a1), .val (.int p2)] [(.ref a1), (.ref a1), (.ref b1)])) rfl rfl (hb hby own_d_prog_43_method_6_code_11)
  refine OGo.st st3 ?_
  show OGo p.tables e below _ (T3.setTop (mkF m 14 #[.val (.ref a1), .val (.int p2)] [(.int sz), (.ref a1), (.ref b1)]))
  refine OGo.st (fun _ k_ => XS.dupX1 X3.here hx rfl (hb hby own_d_prog_43_method_6_code_14) rfl rfl rfl k_) ?_
  show OGo p.tables e below _ (T3.setTop (mkF m 15 #[.val (.ref a1), .val (.int p2)] [(.int sz), (.ref a1), (.int sz), (.ref b1)]))
  refine OGo.st (fun _ k_ => XS.iconst X3.here hx rfl (hb hby own_d_prog_43_method_6_code_15) k_) ?_
  show OGo p.tables e below _ (T3.setTop (mkF m 16 #[.val (.ref a1), .val (.int p2)] [(.int (1 : Int32)), (.int sz), (.ref a1), (.int sz), (.ref b1)]))
  refine OGo.st (fun _ k_ => XS.iadd X3.here hx rfl (hb hby own_d_prog_43_method_6_code_16) rfl k_) ?_
  show OGo p.tables e below _ (T3.setTop (mkF m 17 #[.val (.ref a1), .val (.int p2)] [(.int (sz + (1 : Int32))), (.ref a1), (.int sz), (.ref b1)]))
  obtain ⟨T4, hz4, X4, ez4, W4, st4⟩ := putF X3 hx hZ hown (host := "") (Or.inl (hw _ (List.mem_of_getElem? (i := 27) rfl))) Via.refl ez3 F_size_a1 E_a1 (Or.inl (hw _ (List.mem_of_getElem? (i := 28) rfl))) (hw _ (List.mem_of_getElem? (i := 2) rfl)) (ty := .int) (by decide) rfl rfl (g := (mkF m 17 #[.val (.ref a1), .val (.int p2)] [(.int (sz + (1 : Int32))), (.ref a1), (.int sz), (.ref b1)])) rfl rfl (hb hby own_d_prog_43_method_6_code_17)
  have Fw4 : Fld Z hz4 a1 "com/example/cari/cari/index/Encoder" "size" "I" (.int (sz + (1 : Int32))) := F_size_a1.same W4
  have Ex_5 := E_a1.wr W4
  have F_6 := F_bytes_a1.other W4 (Or.inr (slot_ne (Or.inl (hw _ (List.mem_of_getElem? (i := 12) rfl))) (Or.inl (hw _ (List.mem_of_getElem? (i := 28) rfl))) (by decide) (t := (.array .byte)) (t' := .int) (by decide) (by decide)))
  have Af_7 := A_b1.other W4 (Ne.symm ne_a1_b1)
  have N4 := Fr.snoc X4 N1 g_a1
  have K_8 : Keep h0 hz4 [a1, b1] := (Keep.refl h0 [a1, b1]).wr W4 (Or.inl (List.mem_of_getElem? (i := 0) rfl))
  refine OGo.st st4 ?_
  show OGo p.tables e below _ (T4.setTop (mkF m 20 #[.val (.ref a1), .val (.int p2)] [(.int sz), (.ref b1)]))
  refine OGo.st (fun _ k_ => XS.iloadN X4.here hx rfl (hb hby own_d_prog_43_method_6_code_20) rfl k_) ?_
  show OGo p.tables e below _ (T4.setTop (mkF m 21 #[.val (.ref a1), .val (.int p2)] [(.int p2), (.int sz), (.ref b1)]))
  obtain ⟨T9, hz9, X9, ez9, W9, V9, st9⟩ := own_stB X4 hx hZ ez4 Af_7 (j := sz) (own_in hs0 hs)  (g := (mkF m 21 #[.val (.ref a1), .val (.int p2)] [(.int p2), (.int sz), (.ref b1)])) rfl rfl (hb hby own_d_prog_43_method_6_code_21)
  have Ex_10 := Ex_5.wr W9
  have F_11 := F_6.other W9 (Or.inl ne_a1_b1)
  have F_12 := Fw4.other W9 (Or.inl ne_a1_b1)
  have N9 := Fr.snoc X9 N4 g_b1
  have K_13 : Keep h0 hz9 [a1, b1] := K_8.wr W9 (Or.inl (List.mem_of_getElem? (i := 1) rfl))
  refine OGo.st st9 ?_
  show OGo p.tables e below _ (T9.setTop (mkF m 22 #[.val (.ref a1), .val (.int p2)] []))
  refine OGo.fin X9 (v := none) (fun _ => rfl) hlk (fun fs hr => X9.returnOut hx Bd.returns (hb hby own_d_prog_43_method_6_code_22) hr) ?_ (by decide) (by decide)
  show own_Q_rm7 Z a1 p2 b1 k1 f sz n h0 n0 _ T9.heap _
  rw [ez9]
  exact ⟨rfl, N9, (Nat.le_trans Z0 K_13.1), ⟨b1, k1, _, Ex_10, F_11, F_12, V9, g_b1, ne_a1_b1⟩⟩
theorem own_ef_rm8 (m : MethodId) (x0 : Addr) (x1 : Int32) : entryFrame m #[(.ref x0), (.int x1)] 2 = mkF m 0 #[.val (.ref x0), .val (.int x1)] [] := by first | (simp [entryFrame, mkF, argsToLocals, Value.category]; done) | rfl
def own_Q_rm8 (Z : State) (a1 : Addr) (p2 : Int32) (b1 : Addr) (k1 : ClassId) (f : Nat → Value) (h0 : Heap) (n0 : Nat) (v : Option Value) (h : Heap) (L : List Loc) : Prop := v = none ∧ Fr n0 L ∧ n0 ≤ h.size ∧ own_Enc Z h n0 a1 (16 + 1) 32
set_option maxRecDepth 65536 in
set_option maxHeartbeats 40000000 in
theorem rm8 (l : Launch) (Z : State) (a0 : Array Value) (hw : ∀ d ∈ tables_1, d.before a0 Z = true) (ws : List Jvm.Cond) (a1 : Addr) (p2 : Int32) (b1 : Addr) (k1 : ClassId) (f : Nat → Value) (h0 : Heap) (n0 : Nat) (Z0 : n0 ≤ h0.size) (E_a1 : Exa Z h0 a1 "com/example/cari/cari/index/Encoder") (F_bytes_a1 : Fld Z h0 a1 "com/example/cari/cari/index/Encoder" "bytes" "[B" (.ref b1)) (F_size_a1 : Fld Z h0 a1 "com/example/cari/cari/index/Encoder" "size" "I" (.int (16 : Int32))) (g_a1 : n0 ≤ a1) (A_b1 : Arf Z h0 b1 k1 .byte 16 f) (g_b1 : n0 ≤ b1) (ne_a1_b1 : a1 ≠ b1) :
    OMet l Z (⟨"com/example/cari/cari/index/Encoder", "append", "(B)V"⟩ : MethodName) prog_43_method_6_code 2 none ws ({ frames := 3, cells := 1, slots := 32, locals := 46 } : Room) #[(.ref a1), (.int p2)] h0 (own_Q_rm8 Z a1 p2 b1 k1 f h0 n0) := by
  refine MetFree.of_bodySF (plainFor_of_name own_pn0) hisR ?_
  intro p e s m args below meth c s₁ Bd hml0 hP hK
  obtain ⟨rfl, hZ, hh⟩ := hP
  have hx := Bd.exec
  have hby := Bd.bytes
  have hml : c.maxLocals = 2 := hml0
  have hown : s.vm.findClass "com/example/cari/cari/index/Encoder" = some m.cls := findClass_of_methodNamed Bd.named
  have hnm := (name_of_methodNamed Bd.named Bd.method).1
  have hlk : meth.locks = false := Bd.notSynchronized
  have X0 : Stand p l e ({ frames := 3, cells := 1, slots := 32, locals := 46 } : Room) s m #[(.ref a1), (.int p2)] below meth c s₁ [] 0 0 := Stand.of_body Bd
  have e0 : s₁.heap = h0 := by rw [← hh, Bd.state]; rfl
  have N0 := Fr.nil n0
  refine OGo.enter (P := OPost s (own_Q_rm8 Z a1 p2 b1 k1 f h0 n0) 1 32) (own_ef_rm8 m a1 p2) ?_
  show OGo p.tables e below _ (s₁.setTop (mkF m 0 #[.val (.ref a1), .val (.int p2)] []))
  refine OGo.st (fun _ k_ => XS.aloadN X0.here hx rfl (hb hby own_d_prog_43_method_6_code_0) rfl rfl k_) ?_
  show OGo p.tables e below _ (s₁.setTop (mkF m 1 #[.val (.ref a1), .val (.int p2)] [(.ref a1)]))
  refine OGo.st (fun _ k_ => XS.iconst X0.here hx rfl (hb hby own_d_prog_43_method_6_code_1) k_) ?_
  show OGo p.tables e below _ (s₁.setTop (mkF m 2 #[.val (.ref a1), .val (.int p2)] [(.int (1 : Int32)), (.ref a1)]))
  obtain ⟨cq1, qz1, qz1b⟩ := E_a1.cell
  obtain ⟨_, _, ⟨T1, Lz1, kz1, nz1⟩, -, X1, ⟨Lc1, hQ1, lz1, yz1, zz1⟩, st1⟩ := X0.privateBack hx (y := (⟨"com/example/cari/cari/index/Encoder", "ensureRoom", "(I)V"⟩ : MethodName)) hown (mvT hZ (hw _ (List.mem_of_getElem? (i := 23) rfl))) (mvT hZ (hw _ (List.mem_of_getElem? (i := 24) rfl))) (mvT hZ (own_sel0 Z a0 hw)) (Cond.privateMethod_at (mvP hZ (hw _ (List.mem_of_getElem? (i := 25) rfl)) (args := #[]))) (mvT hZ (hw _ (List.mem_of_getElem? (i := 26) rfl))) (by decide) (backOf (W := 0) (rm6 l Z a0 hw [] a1 b1 k1 f h0 n0 (Nat.le_trans Z0 (Keep.refl h0 [a1, b1]).1) E_a1 F_bytes_a1 F_size_a1 g_a1 A_b1 g_b1 ne_a1_b1) hZ (hw _ (List.mem_of_getElem? (i := 26) rfl)) (hw _ (List.mem_of_getElem? (i := 3) rfl)) (by decide) (by decide)) (g := (mkF m 2 #[.val (.ref a1), .val (.int p2)] [(.int (1 : Int32)), (.ref a1)])) rfl (by rw [hml]; rfl) (Steps.refl _) (a := a1) (by rw [e0]; exact qz1) qz1b (argsL := [(.int (1 : Int32))]) (rest := []) (lenOf own_pd2 rfl) rfl (by show 2 * 0 + _ ≤ _; exact Nat.le_of_eq rfl) (hb hby own_d_prog_43_method_6_code_2) (fun _ _ => ⟨rfl, e0, (by decide : 0 + 1 ≤ _), (by decide : 0 + 32 ≤ _)⟩)
  dsimp only [Pt.U, Pt.locs, Pt.cells, Pt.slots] at X1 lz1 yz1 zz1 st1 hQ1
  subst lz1 yz1 zz1
  obtain ⟨rfl, Nq1, Kq1, nb1, kn1, fn1, szn1, Fb1, Fs1, An1⟩ := hQ1
  have N1 := Fr.app N0 Nq1
  have ne_a1_nb1 : a1 ≠ nb1 := Nat.ne_of_lt (Nat.lt_of_lt_of_le E_a1.lt szn1)
  have ne_b1_nb1 : b1 ≠ nb1 := Nat.ne_of_lt (Nat.lt_of_lt_of_le A_b1.lt szn1)
  have g_nb1 : n0 ≤ nb1 := Nat.le_trans (Nat.le_trans Z0 (Keep.refl h0 [a1, b1]).1) szn1
  have sz_nb1 : h0.size ≤ nb1 := Nat.le_trans (Keep.refl h0 [a1, b1]).1 szn1
  have Ex_2 := E_a1.keep Kq1
  have K_3 : Keep h0 T1.heap [a1, b1] := (Keep.refl h0 [a1, b1]).trans Kq1 (allS (Or.inl (List.mem_of_getElem? (i := 0) rfl)) all0)
  refine OGo.tr st1 ?_
  show OGo p.tables e below _ (T1.setTop (mkF m 5 #[.val (.ref a1), .val (.int p2)] []))
  refine OGo.st (fun _ k_ => XS.aloadN X1.here hx rfl (hb hby own_d_prog_43_method_6_code_5) rfl rfl k_) ?_
  show OGo p.tables e below _ (T1.setTop (mkF m 6 #[.val (.ref a1), .val (.int p2)] [(.ref a1)]))
  obtain ⟨T4, X4, ez4, st4⟩ := getF X1 hx hZ hown (host := "") (Or.inl (hw _ (List.mem_of_getElem? (i := 11) rfl))) Via.refl rfl Fb1 (g := (mkF m 6 #[.val (.ref a1), .val (.int p2)] [(.ref a1)])) rfl rfl (hb hby own_d_prog_43_method_6_code_6)
  refine OGo.st st4 ?_
  show OGo p.tables e below _ (T4.setTop (mkF m 9 #[.val (.ref a1), .val (.int p2)] [(.ref nb1)]))
  refine OGo.st (fun _ k_ => XS.aloadN X4.here hx rfl (hb hby own_d_prog_43_method_6_code_9) rfl rfl k_) ?_
  show OGo p.tables e below _ (T4.setTop (mkF m 10 #[.val (.ref a1), .val (.int p2)] [(.ref a1), (.ref nb1)]))
  refine OGo.st (fun _ k_ => XS.dup X4.here hx rfl (hb hby own_d_prog_43_method_6_code_10) rfl rfl k_) ?_
  show OGo p.tables e below _ (T4.setTop (mkF m 11 #[.val (.ref a1), .val (.int p2)] [(.ref a1), (.ref a1), (.ref nb1)]))
  obtain ⟨T5, X5, ez5, st5⟩ := getF X4 hx hZ hown (host := "") (Or.inl (hw _ (List.mem_of_getElem? (i := 27) rfl))) Via.refl ez4 Fs1 (g := (mkF m 11 #[.val (.ref a1), .val (.int p2)] [(.ref a1), (.ref a1), (.ref nb1)])) rfl rfl (hb hby own_d_prog_43_method_6_code_11)
  refine OGo.st st5 ?_
  show OGo p.tables e below _ (T5.setTop (mkF m 14 #[.val (.ref a1), .val (.int p2)] [(.int (16 : Int32)), (.ref a1), (.ref nb1)]))
  refine OGo.st (fun _ k_ => XS.dupX1 X5.here hx rfl (hb hby own_d_prog_43_method_6_code_14) rfl rfl rfl k_) ?_
  show OGo p.tables e below _ (T5.setTop (mkF m 15 #[.val (.ref a1), .val (.int p2)] [(.int (16 : Int32)), (.ref a1), (.int (16 : Int32)), (.ref nb1)]))
  refine OGo.st (fun _ k_ => XS.iconst X5.here hx rfl (hb hby own_d_prog_43_method_6_code_15) k_) ?_
  show OGo p.tables e below _ (T5.setTop (mkF m 16 #[.val (.ref a1), .val (.int p2)] [(.int (1 : Int32)), (.int (16 : Int32)), (.ref a1), (.int (16 : Int32)), (.ref nb1)]))
  refine OGo.st (fun _ k_ => XS.iadd X5.here hx rfl (hb hby own_d_prog_43_method_6_code_16) rfl k_) ?_
  show OGo p.tables e below _ (T5.setTop (mkF m 17 #[.val (.ref a1), .val (.int p2)] [(.int ((16 : Int32) + (1 : Int32))), (.ref a1), (.int (16 : Int32)), (.ref nb1)]))
  obtain ⟨T6, hz6, X6, ez6, W6, st6⟩ := putF X5 hx hZ hown (host := "") (Or.inl (hw _ (List.mem_of_getElem? (i := 27) rfl))) Via.refl ez5 Fs1 Ex_2 (Or.inl (hw _ (List.mem_of_getElem? (i := 28) rfl))) (hw _ (List.mem_of_getElem? (i := 2) rfl)) (ty := .int) (by decide) rfl rfl (g := (mkF m 17 #[.val (.ref a1), .val (.int p2)] [(.int ((16 : Int32) + (1 : Int32))), (.ref a1), (.int (16 : Int32)), (.ref nb1)])) rfl rfl (hb hby own_d_prog_43_method_6_code_17)
  have Fw6 : Fld Z hz6 a1 "com/example/cari/cari/index/Encoder" "size" "I" (.int ((16 : Int32) + (1 : Int32))) := Fs1.same W6
  have Ex_7 := Ex_2.wr W6
  have F_8 := Fb1.other W6 (Or.inr (slot_ne (Or.inl (hw _ (List.mem_of_getElem? (i := 12) rfl))) (Or.inl (hw _ (List.mem_of_getElem? (i := 28) rfl))) (by decide) (t := (.array .byte)) (t' := .int) (by decide) (by decide)))
  have Af_9 := An1.other W6 (Ne.symm ne_a1_nb1)
  have N6 := Fr.snoc X6 N1 g_a1
  have K_10 : Keep h0 hz6 [a1, b1] := K_3.wr W6 (Or.inl (List.mem_of_getElem? (i := 0) rfl))
  refine OGo.st st6 ?_
  show OGo p.tables e below _ (T6.setTop (mkF m 20 #[.val (.ref a1), .val (.int p2)] [(.int (16 : Int32)), (.ref nb1)]))
  refine OGo.st (fun _ k_ => XS.iloadN X6.here hx rfl (hb hby own_d_prog_43_method_6_code_20) rfl k_) ?_
  show OGo p.tables e below _ (T6.setTop (mkF m 21 #[.val (.ref a1), .val (.int p2)] [(.int p2), (.int (16 : Int32)), (.ref nb1)]))
  obtain ⟨T11, hz11, X11, ez11, W11, V11, st11⟩ := own_stB X6 hx hZ ez6 Af_9 (j := (16 : Int32)) (by decide)  (g := (mkF m 21 #[.val (.ref a1), .val (.int p2)] [(.int p2), (.int (16 : Int32)), (.ref nb1)])) rfl rfl (hb hby own_d_prog_43_method_6_code_21)
  have Ex_12 := Ex_7.wr W11
  have F_13 := F_8.other W11 (Or.inl ne_a1_nb1)
  have F_14 := Fw6.other W11 (Or.inl ne_a1_nb1)
  have N11 := Fr.snoc X11 N6 g_nb1
  have K_15 : Keep h0 hz11 [a1, b1] := K_10.wr W11 (Or.inr sz_nb1)
  refine OGo.st st11 ?_
  show OGo p.tables e below _ (T11.setTop (mkF m 22 #[.val (.ref a1), .val (.int p2)] []))
  refine OGo.fin X11 (v := none) (fun _ => rfl) hlk (fun fs hr => X11.returnOut hx Bd.returns (hb hby own_d_prog_43_method_6_code_22) hr) ?_ (by decide) (by decide)
  show own_Q_rm8 Z a1 p2 b1 k1 f h0 n0 _ T11.heap _
  rw [ez11]
  exact ⟨rfl, N11, (Nat.le_trans Z0 K_15.1), ⟨nb1, kn1, _, Ex_12, F_13, F_14, V11, g_nb1, ne_a1_nb1⟩⟩
theorem own_d_prog_43_method_2_code_0 : decode prog_43_method_2_code 0 = .ok (.lload_n 1, 1) := by decide +kernel
theorem own_d_prog_43_method_2_code_1 : decode prog_43_method_2_code 1 = .ok (.lstore_n 3, 1) := by decide +kernel
theorem own_d_prog_43_method_2_code_2 : decode prog_43_method_2_code 2 = .ok (.lload_n 3, 1) := by decide +kernel
theorem own_d_prog_43_method_2_code_3 : decode prog_43_method_2_code 3 = .ok (.ldc2_w 13, 3) := by decide +kernel
theorem own_d_prog_43_method_2_code_6 : decode prog_43_method_2_code 6 = .ok (.lcmp, 1) := by decide +kernel
theorem own_d_prog_43_method_2_code_7 : decode prog_43_method_2_code 7 = .ok (.ifCond .lt 22, 3) := by decide +kernel
theorem own_d_prog_43_method_2_code_29 : decode prog_43_method_2_code 29 = .ok (.aload_n 0, 1) := by decide +kernel
theorem own_d_prog_43_method_2_code_30 : decode prog_43_method_2_code 30 = .ok (.lload_n 3, 1) := by decide +kernel
theorem own_d_prog_43_method_2_code_31 : decode prog_43_method_2_code 31 = .ok (.l2i, 1) := by decide +kernel
theorem own_d_prog_43_method_2_code_32 : decode prog_43_method_2_code 32 = .ok (.i2b, 1) := by decide +kernel
theorem own_d_prog_43_method_2_code_33 : decode prog_43_method_2_code 33 = .ok (.invokevirtual 15, 3) := by decide +kernel
theorem own_pd3 : parseMethodDescriptor "(B)V" = some ⟨[.byte], none⟩ := by decide +kernel
theorem own_sel1 (Z : State) (a0 : Array Value) (hw : ∀ d ∈ tables_1, d.before a0 Z = true) : (Jvm.Cond.selects "com/example/cari/cari/index/Encoder" (⟨"com/example/cari/cari/index/Encoder", "append", "(B)V"⟩ : MethodName) (⟨"com/example/cari/cari/index/Encoder", "append", "(B)V"⟩ : MethodName)).before a0 Z = true := own_selfsel (y := (⟨"com/example/cari/cari/index/Encoder", "append", "(B)V"⟩ : MethodName)) (y0 := (⟨"com/example/cari/cari/index/Encoder", "number", "(J)V"⟩ : MethodName)) (hw _ (List.mem_of_getElem? (i := 16) rfl)) rfl (hw _ (List.mem_of_getElem? (i := 20) rfl)) (hw _ (List.mem_of_getElem? (i := 21) rfl)) (by decide)
theorem own_d_prog_43_method_2_code_36 : decode prog_43_method_2_code 36 = .ok (.return_, 1) := by decide +kernel
theorem own_d_prog_43_method_2_code_10 : decode prog_43_method_2_code 10 = .ok (.aload_n 0, 1) := by decide +kernel
theorem own_d_prog_43_method_2_code_11 : decode prog_43_method_2_code 11 = .ok (.lload_n 3, 1) := by decide +kernel
theorem own_d_prog_43_method_2_code_12 : decode prog_43_method_2_code 12 = .ok (.ldc2_w 13, 3) := by decide +kernel
theorem own_d_prog_43_method_2_code_15 : decode prog_43_method_2_code 15 = .ok (.lor, 1) := by decide +kernel
theorem own_d_prog_43_method_2_code_16 : decode prog_43_method_2_code 16 = .ok (.l2i, 1) := by decide +kernel
theorem own_d_prog_43_method_2_code_17 : decode prog_43_method_2_code 17 = .ok (.i2b, 1) := by decide +kernel
theorem own_d_prog_43_method_2_code_18 : decode prog_43_method_2_code 18 = .ok (.invokevirtual 15, 3) := by decide +kernel
theorem own_d_prog_43_method_2_code_21 : decode prog_43_method_2_code 21 = .ok (.lload_n 3, 1) := by decide +kernel
theorem own_d_prog_43_method_2_code_22 : decode prog_43_method_2_code 22 = .ok (.bipush 7, 2) := by decide +kernel
theorem own_d_prog_43_method_2_code_24 : decode prog_43_method_2_code 24 = .ok (.lushr, 1) := by decide +kernel
theorem own_d_prog_43_method_2_code_25 : decode prog_43_method_2_code 25 = .ok (.lstore_n 3, 1) := by decide +kernel
theorem own_d_prog_43_method_2_code_26 : decode prog_43_method_2_code 26 = .ok (.goto (-24), 3) := by decide +kernel
theorem own_ef_rm9 (m : MethodId) (x0 : Addr) (x1 : Int64) : entryFrame m #[(.ref x0), (.long x1)] 5 = mkF m 0 #[.val (.ref x0), .val (.long x1), .second, .unset, .unset] [] := by first | (simp [entryFrame, mkF, argsToLocals, Value.category]; done) | rfl
def own_Q_rm9 (Z : State) (a1 : Addr) (q2 : Int64) (sz : Int32) (n : Int32) (h0 : Heap) (n0 : Nat) (v : Option Value) (h : Heap) (L : List Loc) : Prop := v = none ∧ Fr n0 L ∧ n0 ≤ h.size ∧ ∃ n1 : Int32, (n1 = 16 ∨ n1 = 32) ∧ own_Enc Z h n0 a1 (sz + own_len q2) n1
set_option maxRecDepth 65536 in
set_option maxHeartbeats 40000000 in
theorem rm9 (l : Launch) (Z : State) (a0 : Array Value) (hw : ∀ d ∈ tables_1, d.before a0 Z = true) (ws : List Jvm.Cond) (a1 : Addr) (q2 : Int64) (sz : Int32) (n : Int32) (h0 : Heap) (n0 : Nat) (Z0 : n0 ≤ h0.size) (g_a1 : n0 ≤ a1) (hE : own_Enc Z h0 n0 a1 sz n) (hq : 0 ≤ q2.toInt) (hs0 : 0 ≤ sz.toInt) (hs9 : sz.toInt ≤ 9) (hn : n = 16 ∨ n = 32) :
    OMet l Z (⟨"com/example/cari/cari/index/Encoder", "number", "(J)V"⟩ : MethodName) prog_43_method_2_code 5 none ws ({ frames := 4, cells := 1, slots := 32, locals := 59 } : Room) #[(.ref a1), (.long q2)] h0 (own_Q_rm9 Z a1 q2 sz n h0 n0) := by
  refine MetFree.of_bodySF (plainFor_of_name own_pn0) hisR ?_
  intro p e s m args below meth c s₁ Bd hml0 hP hK
  obtain ⟨rfl, hZ, hh⟩ := hP
  have hx := Bd.exec
  have hby := Bd.bytes
  have hml : c.maxLocals = 5 := hml0
  have hown : s.vm.findClass "com/example/cari/cari/index/Encoder" = some m.cls := findClass_of_methodNamed Bd.named
  have hnm := (name_of_methodNamed Bd.named Bd.method).1
  have hlk : meth.locks = false := Bd.notSynchronized
  have X0 : Stand p l e ({ frames := 4, cells := 1, slots := 32, locals := 59 } : Room) s m #[(.ref a1), (.long q2)] below meth c s₁ [] 0 0 := Stand.of_body Bd
  have e0 : s₁.heap = h0 := by rw [← hh, Bd.state]; rfl
  have N0 := Fr.nil n0
  refine OGo.enter (P := OPost s (own_Q_rm9 Z a1 q2 sz n h0 n0) 1 32) (own_ef_rm9 m a1 q2) ?_
  show OGo p.tables e below _ (s₁.setTop (mkF m 0 #[.val (.ref a1), .val (.long q2), .second, .unset, .unset] []))
  refine OGo.st (fun _ k_ => XS.lloadN X0.here hx rfl (hb hby own_d_prog_43_method_2_code_0) rfl k_) ?_
  show OGo p.tables e below _ (s₁.setTop (mkF m 1 #[.val (.ref a1), .val (.long q2), .second, .unset, .unset] [(.long q2)]))
  refine OGo.st (fun _ k_ => XS.lstoreN X0.here hx rfl (hb hby own_d_prog_43_method_2_code_1) rfl (l' := #[.val (.ref a1), .val (.long q2), .second, .val (.long q2), .second]) rfl k_) ?_
  have loop : ∀ (N : Nat) (T : State) (lc : List Loc) (hh_ : Heap) (ce sl : Nat) (v : Int64) (s1 n1 : Int32), Stand p l e ({ frames := 4, cells := 1, slots := 32, locals := 59 } : Room) s m #[(.ref a1), (.long q2)] below meth c T lc ce sl → T.heap = hh_ → Fr n0 lc → n0 ≤ hh_.size → own_Enc Z hh_ n0 a1 s1 n1 → ((n1 = 16 ∧ ce = 0 ∧ sl = 0) ∨ (n1 = 32 ∧ ce ≤ 1 ∧ sl ≤ 32)) → 0 ≤ v.toInt → v.toInt < 128 * 128 ^ N → 0 ≤ s1.toInt → s1.toInt ≤ n1.toInt → s1.toInt + (own_len v).toInt ≤ 18 → s1 + own_len v = sz + own_len q2 → OGo p.tables e below (OPost s (own_Q_rm9 Z a1 q2 sz n h0 n0) 1 32) (T.setTop (mkF m 2 #[.val (.ref a1), .val (.long q2), .second, .val (.long v), .second] [])) := by
    intro N
    induction N with
    | zero =>
      intro T lc hh_ ce sl v s1 n1 XL eL NL ZL EL hcs hv0 hvN h10 h1n h18 hsum
      show OGo p.tables e below _ (T.setTop (mkF m 2 #[.val (.ref a1), .val (.long q2), .second, .val (.long v), .second] []))
      refine OGo.st (fun _ k_ => XS.lloadN XL.here hx rfl (hb hby own_d_prog_43_method_2_code_2) rfl k_) ?_
      show OGo p.tables e below _ (T.setTop (mkF m 3 #[.val (.ref a1), .val (.long q2), .second, .val (.long v), .second] [(.long v)]))
      refine OGo.st (fun _ k_ => XL.ldc2J hx hown (mvT hZ (hw _ (List.mem_of_getElem? (i := 18) rfl))) rfl (hb hby own_d_prog_43_method_2_code_3) k_) ?_
      show OGo p.tables e below _ (T.setTop (mkF m 6 #[.val (.ref a1), .val (.long q2), .second, .val (.long v), .second] [(.long (128 : Int64)), (.long v)]))
      by_cases hv : v < (128 : Int64)
      · skip
        refine OGo.st (fun _ k_ => XT.lcmp XL.here hx rfl (hb hby own_d_prog_43_method_2_code_6) rfl k_) ?_
        show OGo p.tables e below _ (T.setTop (mkF m 7 #[.val (.ref a1), .val (.long q2), .second, .val (.long v), .second] [(.int (XT.cmpL v (128 : Int64)))]))
        refine OGo.st (fun _ k_ => XS.ifYes XL.here hx rfl (pc0 := 7) (pc' := 29) rfl (hb hby own_d_prog_43_method_2_code_7) rfl (XT.ll_lt_t hv) (by decide) (by decide) k_) ?_
        show OGo p.tables e below _ (T.setTop (mkF m 29 #[.val (.ref a1), .val (.long q2), .second, .val (.long v), .second] []))
        refine OGo.st (fun _ k_ => XS.aloadN XL.here hx rfl (hb hby own_d_prog_43_method_2_code_29) rfl rfl k_) ?_
        show OGo p.tables e below _ (T.setTop (mkF m 30 #[.val (.ref a1), .val (.long q2), .second, .val (.long v), .second] [(.ref a1)]))
        refine OGo.st (fun _ k_ => XS.lloadN XL.here hx rfl (hb hby own_d_prog_43_method_2_code_30) rfl k_) ?_
        show OGo p.tables e below _ (T.setTop (mkF m 31 #[.val (.ref a1), .val (.long q2), .second, .val (.long v), .second] [(.long v), (.ref a1)]))
        refine OGo.st (fun _ k_ => XS.l2i XL.here hx rfl (hb hby own_d_prog_43_method_2_code_31) rfl k_) ?_
        show OGo p.tables e below _ (T.setTop (mkF m 32 #[.val (.ref a1), .val (.long q2), .second, .val (.long v), .second] [(.int v.toInt32), (.ref a1)]))
        refine OGo.st (fun _ k_ => XS.i2b XL.here hx rfl (hb hby own_d_prog_43_method_2_code_32) rfl k_) ?_
        rcases hcs with ⟨rfl, rfl, rfl⟩ | ⟨rfl, hce, hsl⟩
        · by_cases hlt : s1 < 16
          · skip
            obtain ⟨eb1, ek1, ef1, eE1, eB1, eS1, eA1, eg1, en1⟩ := EL
            show OGo p.tables e below _ (T.setTop (mkF m 33 #[.val (.ref a1), .val (.long q2), .second, .val (.long v), .second] [(.int v.toInt32.toInt8.toInt32), (.ref a1)]))
            obtain ⟨cq2, qz2, qz2b⟩ := eE1.cell
            obtain ⟨_, _, ⟨T2, Lz2, kz2, nz2⟩, -, X2, ⟨Lc2, hQ2, lz2, yz2, zz2⟩, st2⟩ := XL.privateBack hx (y := (⟨"com/example/cari/cari/index/Encoder", "append", "(B)V"⟩ : MethodName)) hown (mvT hZ (hw _ (List.mem_of_getElem? (i := 19) rfl))) (mvT hZ (hw _ (List.mem_of_getElem? (i := 20) rfl))) (mvT hZ (own_sel1 Z a0 hw)) (Cond.privateMethod_at (mvP hZ (hw _ (List.mem_of_getElem? (i := 21) rfl)) (args := #[]))) (mvT hZ (hw _ (List.mem_of_getElem? (i := 22) rfl))) (by decide) (backOf (W := 0) (rm7 l Z a0 hw [] a1 v.toInt32.toInt8.toInt32 eb1 ek1 ef1 s1 16 hh_ n0 ZL eE1 eB1 eS1 g_a1 eA1 eg1 en1 h10 hlt) hZ (hw _ (List.mem_of_getElem? (i := 22) rfl)) (hw _ (List.mem_of_getElem? (i := 3) rfl)) (by decide) (by decide)) (g := (mkF m 33 #[.val (.ref a1), .val (.long q2), .second, .val (.long v), .second] [(.int v.toInt32.toInt8.toInt32), (.ref a1)])) rfl (by rw [hml]; rfl) (Steps.refl _) (a := a1) (by rw [eL]; exact qz2) qz2b (argsL := [(.int v.toInt32.toInt8.toInt32)]) (rest := []) (lenOf own_pd3 rfl) rfl (by show 2 * 0 + _ ≤ _; exact Nat.le_of_eq rfl) (hb hby own_d_prog_43_method_2_code_33) (fun _ _ => ⟨rfl, eL, (by decide : 0 + 0 ≤ _), (by decide : 0 + 0 ≤ _)⟩)
            dsimp only [Pt.U, Pt.locs, Pt.cells, Pt.slots] at X2 lz2 yz2 zz2 st2 hQ2
            subst lz2 yz2 zz2
            obtain ⟨rfl, Nq2, Zq2, Eq2⟩ := hQ2
            have N2 := Fr.app NL Nq2
            refine OGo.tr st2 ?_
            have hl := own_len_lo hv
            rw [hl] at hsum
            show OGo p.tables e below _ (T2.setTop (mkF m 36 #[.val (.ref a1), .val (.long q2), .second, .val (.long v), .second] []))
            refine OGo.fin X2 (v := none) (fun _ => rfl) hlk (fun fs hr => X2.returnOut hx Bd.returns (hb hby own_d_prog_43_method_2_code_36) hr) ?_ (by omega) (by omega)
            show own_Q_rm9 Z a1 q2 sz n h0 n0 _ T2.heap _
            skip
            exact ⟨rfl, N2, Zq2, 16, by decide, by rw [← hsum]; exact Eq2⟩
          · have q16 := own_eq16 h1n hlt
            subst q16
            obtain ⟨eb3, ek3, ef3, eE3, eB3, eS3, eA3, eg3, en3⟩ := EL
            show OGo p.tables e below _ (T.setTop (mkF m 33 #[.val (.ref a1), .val (.long q2), .second, .val (.long v), .second] [(.int v.toInt32.toInt8.toInt32), (.ref a1)]))
            obtain ⟨cq4, qz4, qz4b⟩ := eE3.cell
            obtain ⟨_, _, ⟨T4, Lz4, kz4, nz4⟩, -, X4, ⟨Lc4, hQ4, lz4, yz4, zz4⟩, st4⟩ := XL.privateBack hx (y := (⟨"com/example/cari/cari/index/Encoder", "append", "(B)V"⟩ : MethodName)) hown (mvT hZ (hw _ (List.mem_of_getElem? (i := 19) rfl))) (mvT hZ (hw _ (List.mem_of_getElem? (i := 20) rfl))) (mvT hZ (own_sel1 Z a0 hw)) (Cond.privateMethod_at (mvP hZ (hw _ (List.mem_of_getElem? (i := 21) rfl)) (args := #[]))) (mvT hZ (hw _ (List.mem_of_getElem? (i := 22) rfl))) (by decide) (backOf (W := 0) (rm8 l Z a0 hw [] a1 v.toInt32.toInt8.toInt32 eb3 ek3 ef3 hh_ n0 ZL eE3 eB3 eS3 g_a1 eA3 eg3 en3) hZ (hw _ (List.mem_of_getElem? (i := 22) rfl)) (hw _ (List.mem_of_getElem? (i := 3) rfl)) (by decide) (by decide)) (g := (mkF m 33 #[.val (.ref a1), .val (.long q2), .second, .val (.long v), .second] [(.int v.toInt32.toInt8.toInt32), (.ref a1)])) rfl (by rw [hml]; rfl) (Steps.refl _) (a := a1) (by rw [eL]; exact qz4) qz4b (argsL := [(.int v.toInt32.toInt8.toInt32)]) (rest := []) (lenOf own_pd3 rfl) rfl (by show 2 * 0 + _ ≤ _; exact Nat.le_of_eq rfl) (hb hby own_d_prog_43_method_2_code_33) (fun _ _ => ⟨rfl, eL, (by decide : 0 + 1 ≤ _), (by decide : 0 + 32 ≤ _)⟩)
            dsimp only [Pt.U, Pt.locs, Pt.cells, Pt.slots] at X4 lz4 yz4 zz4 st4 hQ4
            subst lz4 yz4 zz4
            obtain ⟨rfl, Nq4, Zq4, Eq4⟩ := hQ4
            have N4 := Fr.app NL Nq4
            refine OGo.tr st4 ?_
            have hl := own_len_lo hv
            rw [hl] at hsum
            show OGo p.tables e below _ (T4.setTop (mkF m 36 #[.val (.ref a1), .val (.long q2), .second, .val (.long v), .second] []))
            refine OGo.fin X4 (v := none) (fun _ => rfl) hlk (fun fs hr => X4.returnOut hx Bd.returns (hb hby own_d_prog_43_method_2_code_36) hr) ?_ (by omega) (by omega)
            show own_Q_rm9 Z a1 q2 sz n h0 n0 _ T4.heap _
            skip
            exact ⟨rfl, N4, Zq4, 32, by decide, by rw [← hsum]; exact Eq4⟩
        · have hlt : s1 < 32 := by rw [Int32.lt_iff_toInt_lt]; show s1.toInt < 32; have := own_len_pos v; omega
          obtain ⟨eb5, ek5, ef5, eE5, eB5, eS5, eA5, eg5, en5⟩ := EL
          show OGo p.tables e below _ (T.setTop (mkF m 33 #[.val (.ref a1), .val (.long q2), .second, .val (.long v), .second] [(.int v.toInt32.toInt8.toInt32), (.ref a1)]))
          obtain ⟨cq6, qz6, qz6b⟩ := eE5.cell
          obtain ⟨_, _, ⟨T6, Lz6, kz6, nz6⟩, -, X6, ⟨Lc6, hQ6, lz6, yz6, zz6⟩, st6⟩ := XL.privateBack hx (y := (⟨"com/example/cari/cari/index/Encoder", "append", "(B)V"⟩ : MethodName)) hown (mvT hZ (hw _ (List.mem_of_getElem? (i := 19) rfl))) (mvT hZ (hw _ (List.mem_of_getElem? (i := 20) rfl))) (mvT hZ (own_sel1 Z a0 hw)) (Cond.privateMethod_at (mvP hZ (hw _ (List.mem_of_getElem? (i := 21) rfl)) (args := #[]))) (mvT hZ (hw _ (List.mem_of_getElem? (i := 22) rfl))) (by decide) (backOf (W := 0) (rm7 l Z a0 hw [] a1 v.toInt32.toInt8.toInt32 eb5 ek5 ef5 s1 32 hh_ n0 ZL eE5 eB5 eS5 g_a1 eA5 eg5 en5 h10 hlt) hZ (hw _ (List.mem_of_getElem? (i := 22) rfl)) (hw _ (List.mem_of_getElem? (i := 3) rfl)) (by decide) (by decide)) (g := (mkF m 33 #[.val (.ref a1), .val (.long q2), .second, .val (.long v), .second] [(.int v.toInt32.toInt8.toInt32), (.ref a1)])) rfl (by rw [hml]; rfl) (Steps.refl _) (a := a1) (by rw [eL]; exact qz6) qz6b (argsL := [(.int v.toInt32.toInt8.toInt32)]) (rest := []) (lenOf own_pd3 rfl) rfl (by show 2 * 0 + _ ≤ _; exact Nat.le_of_eq rfl) (hb hby own_d_prog_43_method_2_code_33) (fun _ _ => ⟨rfl, eL, (by show ce + 0 ≤ 1; omega), (by show sl + 0 ≤ 32; omega)⟩)
          dsimp only [Pt.U, Pt.locs, Pt.cells, Pt.slots] at X6 lz6 yz6 zz6 st6 hQ6
          subst lz6 yz6 zz6
          obtain ⟨rfl, Nq6, Zq6, Eq6⟩ := hQ6
          have N6 := Fr.app NL Nq6
          refine OGo.tr st6 ?_
          have hl := own_len_lo hv
          rw [hl] at hsum
          show OGo p.tables e below _ (T6.setTop (mkF m 36 #[.val (.ref a1), .val (.long q2), .second, .val (.long v), .second] []))
          refine OGo.fin X6 (v := none) (fun _ => rfl) hlk (fun fs hr => X6.returnOut hx Bd.returns (hb hby own_d_prog_43_method_2_code_36) hr) ?_ (by omega) (by omega)
          show own_Q_rm9 Z a1 q2 sz n h0 n0 _ T6.heap _
          skip
          exact ⟨rfl, N6, Zq6, 32, by decide, by rw [← hsum]; exact Eq6⟩
      · exact absurd (by rw [Int64.lt_iff_toInt_lt]; have q_ : v.toInt < 128 := (by simpa using hvN); exact q_) hv
    | succ n_ ih =>
      intro T lc hh_ ce sl v s1 n1 XL eL NL ZL EL hcs hv0 hvN h10 h1n h18 hsum
      show OGo p.tables e below _ (T.setTop (mkF m 2 #[.val (.ref a1), .val (.long q2), .second, .val (.long v), .second] []))
      refine OGo.st (fun _ k_ => XS.lloadN XL.here hx rfl (hb hby own_d_prog_43_method_2_code_2) rfl k_) ?_
      show OGo p.tables e below _ (T.setTop (mkF m 3 #[.val (.ref a1), .val (.long q2), .second, .val (.long v), .second] [(.long v)]))
      refine OGo.st (fun _ k_ => XL.ldc2J hx hown (mvT hZ (hw _ (List.mem_of_getElem? (i := 18) rfl))) rfl (hb hby own_d_prog_43_method_2_code_3) k_) ?_
      show OGo p.tables e below _ (T.setTop (mkF m 6 #[.val (.ref a1), .val (.long q2), .second, .val (.long v), .second] [(.long (128 : Int64)), (.long v)]))
      by_cases hv : v < (128 : Int64)
      · skip
        refine OGo.st (fun _ k_ => XT.lcmp XL.here hx rfl (hb hby own_d_prog_43_method_2_code_6) rfl k_) ?_
        show OGo p.tables e below _ (T.setTop (mkF m 7 #[.val (.ref a1), .val (.long q2), .second, .val (.long v), .second] [(.int (XT.cmpL v (128 : Int64)))]))
        refine OGo.st (fun _ k_ => XS.ifYes XL.here hx rfl (pc0 := 7) (pc' := 29) rfl (hb hby own_d_prog_43_method_2_code_7) rfl (XT.ll_lt_t hv) (by decide) (by decide) k_) ?_
        show OGo p.tables e below _ (T.setTop (mkF m 29 #[.val (.ref a1), .val (.long q2), .second, .val (.long v), .second] []))
        refine OGo.st (fun _ k_ => XS.aloadN XL.here hx rfl (hb hby own_d_prog_43_method_2_code_29) rfl rfl k_) ?_
        show OGo p.tables e below _ (T.setTop (mkF m 30 #[.val (.ref a1), .val (.long q2), .second, .val (.long v), .second] [(.ref a1)]))
        refine OGo.st (fun _ k_ => XS.lloadN XL.here hx rfl (hb hby own_d_prog_43_method_2_code_30) rfl k_) ?_
        show OGo p.tables e below _ (T.setTop (mkF m 31 #[.val (.ref a1), .val (.long q2), .second, .val (.long v), .second] [(.long v), (.ref a1)]))
        refine OGo.st (fun _ k_ => XS.l2i XL.here hx rfl (hb hby own_d_prog_43_method_2_code_31) rfl k_) ?_
        show OGo p.tables e below _ (T.setTop (mkF m 32 #[.val (.ref a1), .val (.long q2), .second, .val (.long v), .second] [(.int v.toInt32), (.ref a1)]))
        refine OGo.st (fun _ k_ => XS.i2b XL.here hx rfl (hb hby own_d_prog_43_method_2_code_32) rfl k_) ?_
        rcases hcs with ⟨rfl, rfl, rfl⟩ | ⟨rfl, hce, hsl⟩
        · by_cases hlt : s1 < 16
          · skip
            obtain ⟨eb7, ek7, ef7, eE7, eB7, eS7, eA7, eg7, en7⟩ := EL
            show OGo p.tables e below _ (T.setTop (mkF m 33 #[.val (.ref a1), .val (.long q2), .second, .val (.long v), .second] [(.int v.toInt32.toInt8.toInt32), (.ref a1)]))
            obtain ⟨cq8, qz8, qz8b⟩ := eE7.cell
            obtain ⟨_, _, ⟨T8, Lz8, kz8, nz8⟩, -, X8, ⟨Lc8, hQ8, lz8, yz8, zz8⟩, st8⟩ := XL.privateBack hx (y := (⟨"com/example/cari/cari/index/Encoder", "append", "(B)V"⟩ : MethodName)) hown (mvT hZ (hw _ (List.mem_of_getElem? (i := 19) rfl))) (mvT hZ (hw _ (List.mem_of_getElem? (i := 20) rfl))) (mvT hZ (own_sel1 Z a0 hw)) (Cond.privateMethod_at (mvP hZ (hw _ (List.mem_of_getElem? (i := 21) rfl)) (args := #[]))) (mvT hZ (hw _ (List.mem_of_getElem? (i := 22) rfl))) (by decide) (backOf (W := 0) (rm7 l Z a0 hw [] a1 v.toInt32.toInt8.toInt32 eb7 ek7 ef7 s1 16 hh_ n0 ZL eE7 eB7 eS7 g_a1 eA7 eg7 en7 h10 hlt) hZ (hw _ (List.mem_of_getElem? (i := 22) rfl)) (hw _ (List.mem_of_getElem? (i := 3) rfl)) (by decide) (by decide)) (g := (mkF m 33 #[.val (.ref a1), .val (.long q2), .second, .val (.long v), .second] [(.int v.toInt32.toInt8.toInt32), (.ref a1)])) rfl (by rw [hml]; rfl) (Steps.refl _) (a := a1) (by rw [eL]; exact qz8) qz8b (argsL := [(.int v.toInt32.toInt8.toInt32)]) (rest := []) (lenOf own_pd3 rfl) rfl (by show 2 * 0 + _ ≤ _; exact Nat.le_of_eq rfl) (hb hby own_d_prog_43_method_2_code_33) (fun _ _ => ⟨rfl, eL, (by decide : 0 + 0 ≤ _), (by decide : 0 + 0 ≤ _)⟩)
            dsimp only [Pt.U, Pt.locs, Pt.cells, Pt.slots] at X8 lz8 yz8 zz8 st8 hQ8
            subst lz8 yz8 zz8
            obtain ⟨rfl, Nq8, Zq8, Eq8⟩ := hQ8
            have N8 := Fr.app NL Nq8
            refine OGo.tr st8 ?_
            have hl := own_len_lo hv
            rw [hl] at hsum
            show OGo p.tables e below _ (T8.setTop (mkF m 36 #[.val (.ref a1), .val (.long q2), .second, .val (.long v), .second] []))
            refine OGo.fin X8 (v := none) (fun _ => rfl) hlk (fun fs hr => X8.returnOut hx Bd.returns (hb hby own_d_prog_43_method_2_code_36) hr) ?_ (by omega) (by omega)
            show own_Q_rm9 Z a1 q2 sz n h0 n0 _ T8.heap _
            skip
            exact ⟨rfl, N8, Zq8, 16, by decide, by rw [← hsum]; exact Eq8⟩
          · have q16 := own_eq16 h1n hlt
            subst q16
            obtain ⟨eb9, ek9, ef9, eE9, eB9, eS9, eA9, eg9, en9⟩ := EL
            show OGo p.tables e below _ (T.setTop (mkF m 33 #[.val (.ref a1), .val (.long q2), .second, .val (.long v), .second] [(.int v.toInt32.toInt8.toInt32), (.ref a1)]))
            obtain ⟨cq10, qz10, qz10b⟩ := eE9.cell
            obtain ⟨_, _, ⟨T10, Lz10, kz10, nz10⟩, -, X10, ⟨Lc10, hQ10, lz10, yz10, zz10⟩, st10⟩ := XL.privateBack hx (y := (⟨"com/example/cari/cari/index/Encoder", "append", "(B)V"⟩ : MethodName)) hown (mvT hZ (hw _ (List.mem_of_getElem? (i := 19) rfl))) (mvT hZ (hw _ (List.mem_of_getElem? (i := 20) rfl))) (mvT hZ (own_sel1 Z a0 hw)) (Cond.privateMethod_at (mvP hZ (hw _ (List.mem_of_getElem? (i := 21) rfl)) (args := #[]))) (mvT hZ (hw _ (List.mem_of_getElem? (i := 22) rfl))) (by decide) (backOf (W := 0) (rm8 l Z a0 hw [] a1 v.toInt32.toInt8.toInt32 eb9 ek9 ef9 hh_ n0 ZL eE9 eB9 eS9 g_a1 eA9 eg9 en9) hZ (hw _ (List.mem_of_getElem? (i := 22) rfl)) (hw _ (List.mem_of_getElem? (i := 3) rfl)) (by decide) (by decide)) (g := (mkF m 33 #[.val (.ref a1), .val (.long q2), .second, .val (.long v), .second] [(.int v.toInt32.toInt8.toInt32), (.ref a1)])) rfl (by rw [hml]; rfl) (Steps.refl _) (a := a1) (by rw [eL]; exact qz10) qz10b (argsL := [(.int v.toInt32.toInt8.toInt32)]) (rest := []) (lenOf own_pd3 rfl) rfl (by show 2 * 0 + _ ≤ _; exact Nat.le_of_eq rfl) (hb hby own_d_prog_43_method_2_code_33) (fun _ _ => ⟨rfl, eL, (by decide : 0 + 1 ≤ _), (by decide : 0 + 32 ≤ _)⟩)
            dsimp only [Pt.U, Pt.locs, Pt.cells, Pt.slots] at X10 lz10 yz10 zz10 st10 hQ10
            subst lz10 yz10 zz10
            obtain ⟨rfl, Nq10, Zq10, Eq10⟩ := hQ10
            have N10 := Fr.app NL Nq10
            refine OGo.tr st10 ?_
            have hl := own_len_lo hv
            rw [hl] at hsum
            show OGo p.tables e below _ (T10.setTop (mkF m 36 #[.val (.ref a1), .val (.long q2), .second, .val (.long v), .second] []))
            refine OGo.fin X10 (v := none) (fun _ => rfl) hlk (fun fs hr => X10.returnOut hx Bd.returns (hb hby own_d_prog_43_method_2_code_36) hr) ?_ (by omega) (by omega)
            show own_Q_rm9 Z a1 q2 sz n h0 n0 _ T10.heap _
            skip
            exact ⟨rfl, N10, Zq10, 32, by decide, by rw [← hsum]; exact Eq10⟩
        · have hlt : s1 < 32 := by rw [Int32.lt_iff_toInt_lt]; show s1.toInt < 32; have := own_len_pos v; omega
          obtain ⟨eb11, ek11, ef11, eE11, eB11, eS11, eA11, eg11, en11⟩ := EL
          show OGo p.tables e below _ (T.setTop (mkF m 33 #[.val (.ref a1), .val (.long q2), .second, .val (.long v), .second] [(.int v.toInt32.toInt8.toInt32), (.ref a1)]))
          obtain ⟨cq12, qz12, qz12b⟩ := eE11.cell
          obtain ⟨_, _, ⟨T12, Lz12, kz12, nz12⟩, -, X12, ⟨Lc12, hQ12, lz12, yz12, zz12⟩, st12⟩ := XL.privateBack hx (y := (⟨"com/example/cari/cari/index/Encoder", "append", "(B)V"⟩ : MethodName)) hown (mvT hZ (hw _ (List.mem_of_getElem? (i := 19) rfl))) (mvT hZ (hw _ (List.mem_of_getElem? (i := 20) rfl))) (mvT hZ (own_sel1 Z a0 hw)) (Cond.privateMethod_at (mvP hZ (hw _ (List.mem_of_getElem? (i := 21) rfl)) (args := #[]))) (mvT hZ (hw _ (List.mem_of_getElem? (i := 22) rfl))) (by decide) (backOf (W := 0) (rm7 l Z a0 hw [] a1 v.toInt32.toInt8.toInt32 eb11 ek11 ef11 s1 32 hh_ n0 ZL eE11 eB11 eS11 g_a1 eA11 eg11 en11 h10 hlt) hZ (hw _ (List.mem_of_getElem? (i := 22) rfl)) (hw _ (List.mem_of_getElem? (i := 3) rfl)) (by decide) (by decide)) (g := (mkF m 33 #[.val (.ref a1), .val (.long q2), .second, .val (.long v), .second] [(.int v.toInt32.toInt8.toInt32), (.ref a1)])) rfl (by rw [hml]; rfl) (Steps.refl _) (a := a1) (by rw [eL]; exact qz12) qz12b (argsL := [(.int v.toInt32.toInt8.toInt32)]) (rest := []) (lenOf own_pd3 rfl) rfl (by show 2 * 0 + _ ≤ _; exact Nat.le_of_eq rfl) (hb hby own_d_prog_43_method_2_code_33) (fun _ _ => ⟨rfl, eL, (by show ce + 0 ≤ 1; omega), (by show sl + 0 ≤ 32; omega)⟩)
          dsimp only [Pt.U, Pt.locs, Pt.cells, Pt.slots] at X12 lz12 yz12 zz12 st12 hQ12
          subst lz12 yz12 zz12
          obtain ⟨rfl, Nq12, Zq12, Eq12⟩ := hQ12
          have N12 := Fr.app NL Nq12
          refine OGo.tr st12 ?_
          have hl := own_len_lo hv
          rw [hl] at hsum
          show OGo p.tables e below _ (T12.setTop (mkF m 36 #[.val (.ref a1), .val (.long q2), .second, .val (.long v), .second] []))
          refine OGo.fin X12 (v := none) (fun _ => rfl) hlk (fun fs hr => X12.returnOut hx Bd.returns (hb hby own_d_prog_43_method_2_code_36) hr) ?_ (by omega) (by omega)
          show own_Q_rm9 Z a1 q2 sz n h0 n0 _ T12.heap _
          skip
          exact ⟨rfl, N12, Zq12, 32, by decide, by rw [← hsum]; exact Eq12⟩
      · skip
        show OGo p.tables e below _ (T.setTop (mkF m 6 #[.val (.ref a1), .val (.long q2), .second, .val (.long v), .second] [(.long (128 : Int64)), (.long v)]))
        refine OGo.st (fun _ k_ => XT.lcmp XL.here hx rfl (hb hby own_d_prog_43_method_2_code_6) rfl k_) ?_
        show OGo p.tables e below _ (T.setTop (mkF m 7 #[.val (.ref a1), .val (.long q2), .second, .val (.long v), .second] [(.int (XT.cmpL v (128 : Int64)))]))
        refine OGo.st (fun _ k_ => XS.ifNo XL.here hx rfl (hb hby own_d_prog_43_method_2_code_7) rfl (XT.ll_lt_f hv) k_) ?_
        show OGo p.tables e below _ (T.setTop (mkF m 10 #[.val (.ref a1), .val (.long q2), .second, .val (.long v), .second] []))
        refine OGo.st (fun _ k_ => XS.aloadN XL.here hx rfl (hb hby own_d_prog_43_method_2_code_10) rfl rfl k_) ?_
        show OGo p.tables e below _ (T.setTop (mkF m 11 #[.val (.ref a1), .val (.long q2), .second, .val (.long v), .second] [(.ref a1)]))
        refine OGo.st (fun _ k_ => XS.lloadN XL.here hx rfl (hb hby own_d_prog_43_method_2_code_11) rfl k_) ?_
        show OGo p.tables e below _ (T.setTop (mkF m 12 #[.val (.ref a1), .val (.long q2), .second, .val (.long v), .second] [(.long v), (.ref a1)]))
        refine OGo.st (fun _ k_ => XL.ldc2J hx hown (mvT hZ (hw _ (List.mem_of_getElem? (i := 18) rfl))) rfl (hb hby own_d_prog_43_method_2_code_12) k_) ?_
        show OGo p.tables e below _ (T.setTop (mkF m 15 #[.val (.ref a1), .val (.long q2), .second, .val (.long v), .second] [(.long (128 : Int64)), (.long v), (.ref a1)]))
        refine OGo.st (fun _ k_ => XS.lor XL.here hx rfl (hb hby own_d_prog_43_method_2_code_15) rfl k_) ?_
        show OGo p.tables e below _ (T.setTop (mkF m 16 #[.val (.ref a1), .val (.long q2), .second, .val (.long v), .second] [(.long (v ||| (128 : Int64))), (.ref a1)]))
        refine OGo.st (fun _ k_ => XS.l2i XL.here hx rfl (hb hby own_d_prog_43_method_2_code_16) rfl k_) ?_
        show OGo p.tables e below _ (T.setTop (mkF m 17 #[.val (.ref a1), .val (.long q2), .second, .val (.long v), .second] [(.int (v ||| (128 : Int64)).toInt32), (.ref a1)]))
        refine OGo.st (fun _ k_ => XS.i2b XL.here hx rfl (hb hby own_d_prog_43_method_2_code_17) rfl k_) ?_
        rcases hcs with ⟨rfl, rfl, rfl⟩ | ⟨rfl, hce, hsl⟩
        · by_cases hlt : s1 < 16
          · skip
            obtain ⟨eb13, ek13, ef13, eE13, eB13, eS13, eA13, eg13, en13⟩ := EL
            show OGo p.tables e below _ (T.setTop (mkF m 18 #[.val (.ref a1), .val (.long q2), .second, .val (.long v), .second] [(.int (v ||| (128 : Int64)).toInt32.toInt8.toInt32), (.ref a1)]))
            obtain ⟨cq14, qz14, qz14b⟩ := eE13.cell
            obtain ⟨_, _, ⟨T14, Lz14, kz14, nz14⟩, -, X14, ⟨Lc14, hQ14, lz14, yz14, zz14⟩, st14⟩ := XL.privateBack hx (y := (⟨"com/example/cari/cari/index/Encoder", "append", "(B)V"⟩ : MethodName)) hown (mvT hZ (hw _ (List.mem_of_getElem? (i := 19) rfl))) (mvT hZ (hw _ (List.mem_of_getElem? (i := 20) rfl))) (mvT hZ (own_sel1 Z a0 hw)) (Cond.privateMethod_at (mvP hZ (hw _ (List.mem_of_getElem? (i := 21) rfl)) (args := #[]))) (mvT hZ (hw _ (List.mem_of_getElem? (i := 22) rfl))) (by decide) (backOf (W := 0) (rm7 l Z a0 hw [] a1 (v ||| (128 : Int64)).toInt32.toInt8.toInt32 eb13 ek13 ef13 s1 16 hh_ n0 ZL eE13 eB13 eS13 g_a1 eA13 eg13 en13 h10 hlt) hZ (hw _ (List.mem_of_getElem? (i := 22) rfl)) (hw _ (List.mem_of_getElem? (i := 3) rfl)) (by decide) (by decide)) (g := (mkF m 18 #[.val (.ref a1), .val (.long q2), .second, .val (.long v), .second] [(.int (v ||| (128 : Int64)).toInt32.toInt8.toInt32), (.ref a1)])) rfl (by rw [hml]; rfl) (Steps.refl _) (a := a1) (by rw [eL]; exact qz14) qz14b (argsL := [(.int (v ||| (128 : Int64)).toInt32.toInt8.toInt32)]) (rest := []) (lenOf own_pd3 rfl) rfl (by show 2 * 0 + _ ≤ _; exact Nat.le_of_eq rfl) (hb hby own_d_prog_43_method_2_code_18) (fun _ _ => ⟨rfl, eL, (by decide : 0 + 0 ≤ _), (by decide : 0 + 0 ≤ _)⟩)
            dsimp only [Pt.U, Pt.locs, Pt.cells, Pt.slots] at X14 lz14 yz14 zz14 st14 hQ14
            subst lz14 yz14 zz14
            obtain ⟨rfl, Nq14, Zq14, Eq14⟩ := hQ14
            have N14 := Fr.app NL Nq14
            refine OGo.tr st14 ?_
            have hl := own_len_hi hv0 hv
            have hp := own_len_pos (own_sr v)
            have hsr := own_srn v hv0
            have h9 := own_len_pos v
            have hlI : (own_len v).toInt = 1 + (own_len (own_sr v)).toInt := by rw [hl, XT.add32 (by show XT.fits32 (1 + (own_len (own_sr v)).toInt); unfold XT.fits32; omega)]; rfl
            have hsc := own_succ h10 hlt
            show OGo p.tables e below _ (T14.setTop (mkF m 21 #[.val (.ref a1), .val (.long q2), .second, .val (.long v), .second] []))
            refine OGo.st (fun _ k_ => XS.lloadN X14.here hx rfl (hb hby own_d_prog_43_method_2_code_21) rfl k_) ?_
            show OGo p.tables e below _ (T14.setTop (mkF m 22 #[.val (.ref a1), .val (.long q2), .second, .val (.long v), .second] [(.long v)]))
            refine OGo.st (fun _ k_ => XS.bipush X14.here hx rfl (hb hby own_d_prog_43_method_2_code_22) k_) ?_
            show OGo p.tables e below _ (T14.setTop (mkF m 24 #[.val (.ref a1), .val (.long q2), .second, .val (.long v), .second] [(.int (7 : Int32)), (.long v)]))
            refine OGo.st (fun _ k_ => XS.lushr X14.here hx rfl (hb hby own_d_prog_43_method_2_code_24) rfl k_) ?_
            show OGo p.tables e below _ (T14.setTop (mkF m 25 #[.val (.ref a1), .val (.long q2), .second, .val (.long v), .second] [(.long ((v.toUInt64 >>> ((7 : Int32) &&& 0x3f).toInt64.toUInt64).toInt64))]))
            refine OGo.st (fun _ k_ => XS.lstoreN X14.here hx rfl (hb hby own_d_prog_43_method_2_code_25) rfl (l' := #[.val (.ref a1), .val (.long q2), .second, .val (.long ((v.toUInt64 >>> ((7 : Int32) &&& 0x3f).toInt64.toUInt64).toInt64)), .second]) rfl k_) ?_
            show OGo p.tables e below _ (T14.setTop (mkF m 26 #[.val (.ref a1), .val (.long q2), .second, .val (.long ((v.toUInt64 >>> ((7 : Int32) &&& 0x3f).toInt64.toUInt64).toInt64)), .second] []))
            refine OGo.st (fun _ k_ => XS.goto X14.here hx rfl (pc0 := 26) (pc' := 2) rfl (hb hby own_d_prog_43_method_2_code_26) (by decide) (by decide) k_) ?_
            have h16 : (16 : Int32).toInt = 16 := by decide
            have h32 : (32 : Int32).toInt = 32 := by decide
            rw [Int32.lt_iff_toInt_lt] at hlt
            rw [Int.pow_succ, Int.mul_comm (128 ^ n_) 128] at hvN
            exact ih T14 _ T14.heap _ _ (own_sr v) (s1 + 1) 16 X14 rfl N14 Zq14 Eq14 (Or.inl ⟨rfl, rfl, rfl⟩) (by rw [hsr]; omega) (by rw [hsr]; omega) (by rw [hsc]; omega) (by rw [hsc]; omega) (by rw [hsc]; omega) (by rw [← hsum, hl, Int32.add_assoc])
          · have q16 := own_eq16 h1n hlt
            subst q16
            obtain ⟨eb15, ek15, ef15, eE15, eB15, eS15, eA15, eg15, en15⟩ := EL
            show OGo p.tables e below _ (T.setTop (mkF m 18 #[.val (.ref a1), .val (.long q2), .second, .val (.long v), .second] [(.int (v ||| (128 : Int64)).toInt32.toInt8.toInt32), (.ref a1)]))
            obtain ⟨cq16, qz16, qz16b⟩ := eE15.cell
            obtain ⟨_, _, ⟨T16, Lz16, kz16, nz16⟩, -, X16, ⟨Lc16, hQ16, lz16, yz16, zz16⟩, st16⟩ := XL.privateBack hx (y := (⟨"com/example/cari/cari/index/Encoder", "append", "(B)V"⟩ : MethodName)) hown (mvT hZ (hw _ (List.mem_of_getElem? (i := 19) rfl))) (mvT hZ (hw _ (List.mem_of_getElem? (i := 20) rfl))) (mvT hZ (own_sel1 Z a0 hw)) (Cond.privateMethod_at (mvP hZ (hw _ (List.mem_of_getElem? (i := 21) rfl)) (args := #[]))) (mvT hZ (hw _ (List.mem_of_getElem? (i := 22) rfl))) (by decide) (backOf (W := 0) (rm8 l Z a0 hw [] a1 (v ||| (128 : Int64)).toInt32.toInt8.toInt32 eb15 ek15 ef15 hh_ n0 ZL eE15 eB15 eS15 g_a1 eA15 eg15 en15) hZ (hw _ (List.mem_of_getElem? (i := 22) rfl)) (hw _ (List.mem_of_getElem? (i := 3) rfl)) (by decide) (by decide)) (g := (mkF m 18 #[.val (.ref a1), .val (.long q2), .second, .val (.long v), .second] [(.int (v ||| (128 : Int64)).toInt32.toInt8.toInt32), (.ref a1)])) rfl (by rw [hml]; rfl) (Steps.refl _) (a := a1) (by rw [eL]; exact qz16) qz16b (argsL := [(.int (v ||| (128 : Int64)).toInt32.toInt8.toInt32)]) (rest := []) (lenOf own_pd3 rfl) rfl (by show 2 * 0 + _ ≤ _; exact Nat.le_of_eq rfl) (hb hby own_d_prog_43_method_2_code_18) (fun _ _ => ⟨rfl, eL, (by decide : 0 + 1 ≤ _), (by decide : 0 + 32 ≤ _)⟩)
            dsimp only [Pt.U, Pt.locs, Pt.cells, Pt.slots] at X16 lz16 yz16 zz16 st16 hQ16
            subst lz16 yz16 zz16
            obtain ⟨rfl, Nq16, Zq16, Eq16⟩ := hQ16
            have N16 := Fr.app NL Nq16
            refine OGo.tr st16 ?_
            have hl := own_len_hi hv0 hv
            have hp := own_len_pos (own_sr v)
            have hsr := own_srn v hv0
            have h9 := own_len_pos v
            have hlI : (own_len v).toInt = 1 + (own_len (own_sr v)).toInt := by rw [hl, XT.add32 (by show XT.fits32 (1 + (own_len (own_sr v)).toInt); unfold XT.fits32; omega)]; rfl
            have hsc : ((16 : Int32) + 1).toInt = 17 := by decide
            show OGo p.tables e below _ (T16.setTop (mkF m 21 #[.val (.ref a1), .val (.long q2), .second, .val (.long v), .second] []))
            refine OGo.st (fun _ k_ => XS.lloadN X16.here hx rfl (hb hby own_d_prog_43_method_2_code_21) rfl k_) ?_
            show OGo p.tables e below _ (T16.setTop (mkF m 22 #[.val (.ref a1), .val (.long q2), .second, .val (.long v), .second] [(.long v)]))
            refine OGo.st (fun _ k_ => XS.bipush X16.here hx rfl (hb hby own_d_prog_43_method_2_code_22) k_) ?_
            show OGo p.tables e below _ (T16.setTop (mkF m 24 #[.val (.ref a1), .val (.long q2), .second, .val (.long v), .second] [(.int (7 : Int32)), (.long v)]))
            refine OGo.st (fun _ k_ => XS.lushr X16.here hx rfl (hb hby own_d_prog_43_method_2_code_24) rfl k_) ?_
            show OGo p.tables e below _ (T16.setTop (mkF m 25 #[.val (.ref a1), .val (.long q2), .second, .val (.long v), .second] [(.long ((v.toUInt64 >>> ((7 : Int32) &&& 0x3f).toInt64.toUInt64).toInt64))]))
            refine OGo.st (fun _ k_ => XS.lstoreN X16.here hx rfl (hb hby own_d_prog_43_method_2_code_25) rfl (l' := #[.val (.ref a1), .val (.long q2), .second, .val (.long ((v.toUInt64 >>> ((7 : Int32) &&& 0x3f).toInt64.toUInt64).toInt64)), .second]) rfl k_) ?_
            show OGo p.tables e below _ (T16.setTop (mkF m 26 #[.val (.ref a1), .val (.long q2), .second, .val (.long ((v.toUInt64 >>> ((7 : Int32) &&& 0x3f).toInt64.toUInt64).toInt64)), .second] []))
            refine OGo.st (fun _ k_ => XS.goto X16.here hx rfl (pc0 := 26) (pc' := 2) rfl (hb hby own_d_prog_43_method_2_code_26) (by decide) (by decide) k_) ?_
            have h16 : (16 : Int32).toInt = 16 := by decide
            have h32 : (32 : Int32).toInt = 32 := by decide
            rw [Int.pow_succ, Int.mul_comm (128 ^ n_) 128] at hvN
            exact ih T16 _ T16.heap _ _ (own_sr v) ((16 : Int32) + 1) 32 X16 rfl N16 Zq16 Eq16 (Or.inr ⟨rfl, by decide, by decide⟩) (by rw [hsr]; omega) (by rw [hsr]; omega) (by rw [hsc]; omega) (by rw [hsc]; omega) (by rw [hsc]; omega) (by rw [← hsum, hl, Int32.add_assoc])
        · have hlt : s1 < 32 := by rw [Int32.lt_iff_toInt_lt]; show s1.toInt < 32; have := own_len_pos v; omega
          obtain ⟨eb17, ek17, ef17, eE17, eB17, eS17, eA17, eg17, en17⟩ := EL
          show OGo p.tables e below _ (T.setTop (mkF m 18 #[.val (.ref a1), .val (.long q2), .second, .val (.long v), .second] [(.int (v ||| (128 : Int64)).toInt32.toInt8.toInt32), (.ref a1)]))
          obtain ⟨cq18, qz18, qz18b⟩ := eE17.cell
          obtain ⟨_, _, ⟨T18, Lz18, kz18, nz18⟩, -, X18, ⟨Lc18, hQ18, lz18, yz18, zz18⟩, st18⟩ := XL.privateBack hx (y := (⟨"com/example/cari/cari/index/Encoder", "append", "(B)V"⟩ : MethodName)) hown (mvT hZ (hw _ (List.mem_of_getElem? (i := 19) rfl))) (mvT hZ (hw _ (List.mem_of_getElem? (i := 20) rfl))) (mvT hZ (own_sel1 Z a0 hw)) (Cond.privateMethod_at (mvP hZ (hw _ (List.mem_of_getElem? (i := 21) rfl)) (args := #[]))) (mvT hZ (hw _ (List.mem_of_getElem? (i := 22) rfl))) (by decide) (backOf (W := 0) (rm7 l Z a0 hw [] a1 (v ||| (128 : Int64)).toInt32.toInt8.toInt32 eb17 ek17 ef17 s1 32 hh_ n0 ZL eE17 eB17 eS17 g_a1 eA17 eg17 en17 h10 hlt) hZ (hw _ (List.mem_of_getElem? (i := 22) rfl)) (hw _ (List.mem_of_getElem? (i := 3) rfl)) (by decide) (by decide)) (g := (mkF m 18 #[.val (.ref a1), .val (.long q2), .second, .val (.long v), .second] [(.int (v ||| (128 : Int64)).toInt32.toInt8.toInt32), (.ref a1)])) rfl (by rw [hml]; rfl) (Steps.refl _) (a := a1) (by rw [eL]; exact qz18) qz18b (argsL := [(.int (v ||| (128 : Int64)).toInt32.toInt8.toInt32)]) (rest := []) (lenOf own_pd3 rfl) rfl (by show 2 * 0 + _ ≤ _; exact Nat.le_of_eq rfl) (hb hby own_d_prog_43_method_2_code_18) (fun _ _ => ⟨rfl, eL, (by show ce + 0 ≤ 1; omega), (by show sl + 0 ≤ 32; omega)⟩)
          dsimp only [Pt.U, Pt.locs, Pt.cells, Pt.slots] at X18 lz18 yz18 zz18 st18 hQ18
          subst lz18 yz18 zz18
          obtain ⟨rfl, Nq18, Zq18, Eq18⟩ := hQ18
          have N18 := Fr.app NL Nq18
          refine OGo.tr st18 ?_
          have hl := own_len_hi hv0 hv
          have hp := own_len_pos (own_sr v)
          have hsr := own_srn v hv0
          have h9 := own_len_pos v
          have hlI : (own_len v).toInt = 1 + (own_len (own_sr v)).toInt := by rw [hl, XT.add32 (by show XT.fits32 (1 + (own_len (own_sr v)).toInt); unfold XT.fits32; omega)]; rfl
          have hsc := own_succ h10 hlt
          show OGo p.tables e below _ (T18.setTop (mkF m 21 #[.val (.ref a1), .val (.long q2), .second, .val (.long v), .second] []))
          refine OGo.st (fun _ k_ => XS.lloadN X18.here hx rfl (hb hby own_d_prog_43_method_2_code_21) rfl k_) ?_
          show OGo p.tables e below _ (T18.setTop (mkF m 22 #[.val (.ref a1), .val (.long q2), .second, .val (.long v), .second] [(.long v)]))
          refine OGo.st (fun _ k_ => XS.bipush X18.here hx rfl (hb hby own_d_prog_43_method_2_code_22) k_) ?_
          show OGo p.tables e below _ (T18.setTop (mkF m 24 #[.val (.ref a1), .val (.long q2), .second, .val (.long v), .second] [(.int (7 : Int32)), (.long v)]))
          refine OGo.st (fun _ k_ => XS.lushr X18.here hx rfl (hb hby own_d_prog_43_method_2_code_24) rfl k_) ?_
          show OGo p.tables e below _ (T18.setTop (mkF m 25 #[.val (.ref a1), .val (.long q2), .second, .val (.long v), .second] [(.long ((v.toUInt64 >>> ((7 : Int32) &&& 0x3f).toInt64.toUInt64).toInt64))]))
          refine OGo.st (fun _ k_ => XS.lstoreN X18.here hx rfl (hb hby own_d_prog_43_method_2_code_25) rfl (l' := #[.val (.ref a1), .val (.long q2), .second, .val (.long ((v.toUInt64 >>> ((7 : Int32) &&& 0x3f).toInt64.toUInt64).toInt64)), .second]) rfl k_) ?_
          show OGo p.tables e below _ (T18.setTop (mkF m 26 #[.val (.ref a1), .val (.long q2), .second, .val (.long ((v.toUInt64 >>> ((7 : Int32) &&& 0x3f).toInt64.toUInt64).toInt64)), .second] []))
          refine OGo.st (fun _ k_ => XS.goto X18.here hx rfl (pc0 := 26) (pc' := 2) rfl (hb hby own_d_prog_43_method_2_code_26) (by decide) (by decide) k_) ?_
          have h16 : (16 : Int32).toInt = 16 := by decide
          have h32 : (32 : Int32).toInt = 32 := by decide
          rw [Int.pow_succ, Int.mul_comm (128 ^ n_) 128] at hvN
          exact ih T18 _ T18.heap _ _ (own_sr v) (s1 + 1) 32 X18 rfl N18 Zq18 Eq18 (Or.inr ⟨rfl, by omega, by omega⟩) (by rw [hsr]; omega) (by rw [hsr]; omega) (by rw [hsc]; omega) (by rw [hsc]; omega) (by rw [hsc]; omega) (by rw [← hsum, hl, Int32.add_assoc])
  refine loop 8 s₁ _ h0 0 0 q2 sz n X0 e0 N0 Z0 hE ?_ hq ?_ hs0 ?_ ?_ rfl
  · rcases hn with rfl | rfl
    · exact Or.inl ⟨rfl, rfl, rfl⟩
    · exact Or.inr ⟨rfl, by decide, by decide⟩
  · have := q2.toInt_lt; first | omega | (show q2.toInt < 9223372036854775808; omega)
  · rcases hn with rfl | rfl
    · show sz.toInt ≤ 16; omega
    · show sz.toInt ≤ 32; omega
  · have := own_len_pos q2; omega
theorem own_d_prog_43_method_4_code_0 : decode prog_43_method_4_code 0 = .ok (.aload_n 0, 1) := by decide +kernel
theorem own_d_prog_43_method_4_code_1 : decode prog_43_method_4_code 1 = .ok (.getfield 39, 3) := by decide +kernel
theorem own_d_prog_43_method_4_code_4 : decode prog_43_method_4_code 4 = .ok (.ireturn, 1) := by decide +kernel
theorem own_ef_rm10 (m : MethodId) (x0 : Addr) : entryFrame m #[(.ref x0)] 1 = mkF m 0 #[.val (.ref x0)] [] := by first | (simp [entryFrame, mkF, argsToLocals, Value.category]; done) | rfl
def own_Q_rm10 (Z : State) (a1 : Addr) (w : Int32) (h0 : Heap) (n0 : Nat) (v : Option Value) (h : Heap) (L : List Loc) : Prop := v = some (.int w) ∧ Fr n0 L ∧ h = h0
set_option maxRecDepth 65536 in
set_option maxHeartbeats 40000000 in
theorem rm10 (l : Launch) (Z : State) (a0 : Array Value) (hw : ∀ d ∈ tables_1, d.before a0 Z = true) (ws : List Jvm.Cond) (a1 : Addr) (w : Int32) (h0 : Heap) (n0 : Nat) (Z0 : n0 ≤ h0.size) (F_size_a1 : Fld Z h0 a1 "com/example/cari/cari/index/Encoder" "size" "I" (.int w)) :
    OMet l Z (⟨"com/example/cari/cari/index/Encoder", "size", "()I"⟩ : MethodName) prog_43_method_4_code 1 (some .int) ws ({ frames := 0, cells := 0, slots := 0, locals := 0 } : Room) #[(.ref a1)] h0 (own_Q_rm10 Z a1 w h0 n0) := by
  refine MetFree.of_bodySF (plainFor_of_name own_pn0) hisR ?_
  intro p e s m args below meth c s₁ Bd hml0 hP hK
  obtain ⟨rfl, hZ, hh⟩ := hP
  have hx := Bd.exec
  have hby := Bd.bytes
  have hml : c.maxLocals = 1 := hml0
  have hown : s.vm.findClass "com/example/cari/cari/index/Encoder" = some m.cls := findClass_of_methodNamed Bd.named
  have hnm := (name_of_methodNamed Bd.named Bd.method).1
  have hlk : meth.locks = false := Bd.notSynchronized
  have X0 : Stand p l e ({ frames := 0, cells := 0, slots := 0, locals := 0 } : Room) s m #[(.ref a1)] below meth c s₁ [] 0 0 := Stand.of_body Bd
  have e0 : s₁.heap = h0 := by rw [← hh, Bd.state]; rfl
  have N0 := Fr.nil n0
  refine OGo.enter (P := OPost s (own_Q_rm10 Z a1 w h0 n0) 0 0) (own_ef_rm10 m a1) ?_
  show OGo p.tables e below _ (s₁.setTop (mkF m 0 #[.val (.ref a1)] []))
  refine OGo.st (fun _ k_ => XS.aloadN X0.here hx rfl (hb hby own_d_prog_43_method_4_code_0) rfl rfl k_) ?_
  show OGo p.tables e below _ (s₁.setTop (mkF m 1 #[.val (.ref a1)] [(.ref a1)]))
  obtain ⟨T1, X1, ez1, st1⟩ := getF X0 hx hZ hown (host := "") (Or.inl (hw _ (List.mem_of_getElem? (i := 27) rfl))) Via.refl e0 F_size_a1 (g := (mkF m 1 #[.val (.ref a1)] [(.ref a1)])) rfl rfl (hb hby own_d_prog_43_method_4_code_1)
  refine OGo.st st1 ?_
  show OGo p.tables e below _ (T1.setTop (mkF m 4 #[.val (.ref a1)] [(.int w)]))
  refine OGo.fin X1 (v := some (.int w)) (fun h => by rw [Bd.returns] at h; cases h) hlk (fun fs hr => X1.ireturnOut hx Bd.returns rfl (Or.inl rfl) (hb hby own_d_prog_43_method_4_code_4) hr) ?_ (by decide) (by decide)
  show own_Q_rm10 Z a1 w h0 n0 _ T1.heap _
  rw [ez1]
  exact ⟨rfl, N0, rfl⟩
theorem own_d_method_2_code_0 : decode method_2_code 0 = .ok (.lload_n 0, 1) := by decide +kernel
theorem own_d_method_2_code_1 : decode method_2_code 1 = .ok (.ldc2_w 7, 3) := by decide +kernel
theorem own_d_method_2_code_4 : decode method_2_code 4 = .ok (.lcmp, 1) := by decide +kernel
theorem own_d_method_2_code_5 : decode method_2_code 5 = .ok (.ifCond .ge 5, 3) := by decide +kernel
theorem own_d_method_2_code_8 : decode method_2_code 8 = .ok (.iconst 1, 1) := by decide +kernel
theorem own_d_method_2_code_9 : decode method_2_code 9 = .ok (.ireturn, 1) := by decide +kernel
theorem own_d_method_2_code_10 : decode method_2_code 10 = .ok (.lload_n 0, 1) := by decide +kernel
theorem own_d_method_2_code_11 : decode method_2_code 11 = .ok (.ldc2_w 9, 3) := by decide +kernel
theorem own_d_method_2_code_14 : decode method_2_code 14 = .ok (.lcmp, 1) := by decide +kernel
theorem own_d_method_2_code_15 : decode method_2_code 15 = .ok (.ifCond .ge 5, 3) := by decide +kernel
theorem own_d_method_2_code_18 : decode method_2_code 18 = .ok (.iconst 2, 1) := by decide +kernel
theorem own_d_method_2_code_19 : decode method_2_code 19 = .ok (.ireturn, 1) := by decide +kernel
theorem own_d_method_2_code_20 : decode method_2_code 20 = .ok (.lload_n 0, 1) := by decide +kernel
theorem own_d_method_2_code_21 : decode method_2_code 21 = .ok (.ldc2_w 11, 3) := by decide +kernel
theorem own_d_method_2_code_24 : decode method_2_code 24 = .ok (.lcmp, 1) := by decide +kernel
theorem own_d_method_2_code_25 : decode method_2_code 25 = .ok (.ifCond .ge 5, 3) := by decide +kernel
theorem own_d_method_2_code_28 : decode method_2_code 28 = .ok (.iconst 3, 1) := by decide +kernel
theorem own_d_method_2_code_29 : decode method_2_code 29 = .ok (.ireturn, 1) := by decide +kernel
theorem own_d_method_2_code_30 : decode method_2_code 30 = .ok (.lload_n 0, 1) := by decide +kernel
theorem own_d_method_2_code_31 : decode method_2_code 31 = .ok (.ldc2_w 13, 3) := by decide +kernel
theorem own_d_method_2_code_34 : decode method_2_code 34 = .ok (.lcmp, 1) := by decide +kernel
theorem own_d_method_2_code_35 : decode method_2_code 35 = .ok (.ifCond .ge 5, 3) := by decide +kernel
theorem own_d_method_2_code_38 : decode method_2_code 38 = .ok (.iconst 4, 1) := by decide +kernel
theorem own_d_method_2_code_39 : decode method_2_code 39 = .ok (.ireturn, 1) := by decide +kernel
theorem own_d_method_2_code_40 : decode method_2_code 40 = .ok (.lload_n 0, 1) := by decide +kernel
theorem own_d_method_2_code_41 : decode method_2_code 41 = .ok (.ldc2_w 15, 3) := by decide +kernel
theorem own_d_method_2_code_44 : decode method_2_code 44 = .ok (.lcmp, 1) := by decide +kernel
theorem own_d_method_2_code_45 : decode method_2_code 45 = .ok (.ifCond .ge 5, 3) := by decide +kernel
theorem own_d_method_2_code_48 : decode method_2_code 48 = .ok (.iconst 5, 1) := by decide +kernel
theorem own_d_method_2_code_49 : decode method_2_code 49 = .ok (.ireturn, 1) := by decide +kernel
theorem own_d_method_2_code_50 : decode method_2_code 50 = .ok (.lload_n 0, 1) := by decide +kernel
theorem own_d_method_2_code_51 : decode method_2_code 51 = .ok (.ldc2_w 17, 3) := by decide +kernel
theorem own_d_method_2_code_54 : decode method_2_code 54 = .ok (.lcmp, 1) := by decide +kernel
theorem own_d_method_2_code_55 : decode method_2_code 55 = .ok (.ifCond .ge 6, 3) := by decide +kernel
theorem own_d_method_2_code_58 : decode method_2_code 58 = .ok (.bipush 6, 2) := by decide +kernel
theorem own_d_method_2_code_60 : decode method_2_code 60 = .ok (.ireturn, 1) := by decide +kernel
theorem own_d_method_2_code_61 : decode method_2_code 61 = .ok (.lload_n 0, 1) := by decide +kernel
theorem own_d_method_2_code_62 : decode method_2_code 62 = .ok (.ldc2_w 19, 3) := by decide +kernel
theorem own_d_method_2_code_65 : decode method_2_code 65 = .ok (.lcmp, 1) := by decide +kernel
theorem own_d_method_2_code_66 : decode method_2_code 66 = .ok (.ifCond .ge 6, 3) := by decide +kernel
theorem own_d_method_2_code_69 : decode method_2_code 69 = .ok (.bipush 7, 2) := by decide +kernel
theorem own_d_method_2_code_71 : decode method_2_code 71 = .ok (.ireturn, 1) := by decide +kernel
theorem own_d_method_2_code_72 : decode method_2_code 72 = .ok (.lload_n 0, 1) := by decide +kernel
theorem own_d_method_2_code_73 : decode method_2_code 73 = .ok (.ldc2_w 21, 3) := by decide +kernel
theorem own_d_method_2_code_76 : decode method_2_code 76 = .ok (.lcmp, 1) := by decide +kernel
theorem own_d_method_2_code_77 : decode method_2_code 77 = .ok (.ifCond .ge 6, 3) := by decide +kernel
theorem own_d_method_2_code_80 : decode method_2_code 80 = .ok (.bipush 8, 2) := by decide +kernel
theorem own_d_method_2_code_82 : decode method_2_code 82 = .ok (.ireturn, 1) := by decide +kernel
theorem own_d_method_2_code_83 : decode method_2_code 83 = .ok (.bipush 9, 2) := by decide +kernel
theorem own_d_method_2_code_85 : decode method_2_code 85 = .ok (.ireturn, 1) := by decide +kernel
theorem own_pn2 : plainName "com/example/cari/cari/index/EncoderNumberPinLaw" = true := by first | (simp [plainName, overriddenIn]; done) | decide +kernel
theorem own_ef_rm11 (m : MethodId) (x0 : Int64) : entryFrame m #[(.long x0)] 2 = mkF m 0 #[.val (.long x0), .second] [] := by first | (simp [entryFrame, mkF, argsToLocals, Value.category]; done) | rfl
def own_Q_rm11 (Z : State) (q1 : Int64) (h0 : Heap) (n0 : Nat) (v : Option Value) (h : Heap) (L : List Loc) : Prop := v = some (.int (own_len q1)) ∧ Fr n0 L ∧ h = h0
set_option maxRecDepth 65536 in
set_option maxHeartbeats 40000000 in
theorem rm11 (l : Launch) (Z : State) (a0 : Array Value) (hw : ∀ d ∈ tables_1, d.before a0 Z = true) (ws : List Jvm.Cond) (q1 : Int64) (h0 : Heap) (n0 : Nat) (Z0 : n0 ≤ h0.size)  :
    OMet l Z (⟨"com/example/cari/cari/index/EncoderNumberPinLaw", "len", "(J)I"⟩ : MethodName) method_2_code 2 (some .int) ws ({ frames := 0, cells := 0, slots := 0, locals := 0 } : Room) #[(.long q1)] h0 (own_Q_rm11 Z q1 h0 n0) := by
  refine MetFree.of_bodySF (plainFor_of_name own_pn2) hisR ?_
  intro p e s m args below meth c s₁ Bd hml0 hP hK
  obtain ⟨rfl, hZ, hh⟩ := hP
  have hx := Bd.exec
  have hby := Bd.bytes
  have hml : c.maxLocals = 2 := hml0
  have hown : s.vm.findClass "com/example/cari/cari/index/EncoderNumberPinLaw" = some m.cls := findClass_of_methodNamed Bd.named
  have hnm := (name_of_methodNamed Bd.named Bd.method).1
  have hlk : meth.locks = false := Bd.notSynchronized
  have X0 : Stand p l e ({ frames := 0, cells := 0, slots := 0, locals := 0 } : Room) s m #[(.long q1)] below meth c s₁ [] 0 0 := Stand.of_body Bd
  have e0 : s₁.heap = h0 := by rw [← hh, Bd.state]; rfl
  have N0 := Fr.nil n0
  refine OGo.enter (P := OPost s (own_Q_rm11 Z q1 h0 n0) 0 0) (own_ef_rm11 m q1) ?_
  show OGo p.tables e below _ (s₁.setTop (mkF m 0 #[.val (.long q1), .second] []))
  refine OGo.st (fun _ k_ => XS.lloadN X0.here hx rfl (hb hby own_d_method_2_code_0) rfl k_) ?_
  show OGo p.tables e below _ (s₁.setTop (mkF m 1 #[.val (.long q1), .second] [(.long q1)]))
  refine OGo.st (fun _ k_ => X0.ldc2J hx hown (mvT hZ (hw _ (List.mem_of_getElem? (i := 38) rfl))) rfl (hb hby own_d_method_2_code_1) k_) ?_
  show OGo p.tables e below _ (s₁.setTop (mkF m 4 #[.val (.long q1), .second] [(.long (128 : Int64)), (.long q1)]))
  by_cases hc4 : q1 < (128 : Int64)
  · refine OGo.st (fun _ k_ => XT.lcmp X0.here hx rfl (hb hby own_d_method_2_code_4) rfl k_) ?_
    show OGo p.tables e below _ (s₁.setTop (mkF m 5 #[.val (.long q1), .second] [(.int (XT.cmpL q1 (128 : Int64)))]))
    refine OGo.st (fun _ k_ => XS.ifNo X0.here hx rfl (hb hby own_d_method_2_code_5) rfl (XT.ll_ge_f hc4) k_) ?_
    show OGo p.tables e below _ (s₁.setTop (mkF m 8 #[.val (.long q1), .second] []))
    refine OGo.st (fun _ k_ => XS.iconst X0.here hx rfl (hb hby own_d_method_2_code_8) k_) ?_
    show OGo p.tables e below _ (s₁.setTop (mkF m 9 #[.val (.long q1), .second] [(.int (1 : Int32))]))
    refine OGo.fin X0 (v := some (.int (1 : Int32))) (fun h => by rw [Bd.returns] at h; cases h) hlk (fun fs hr => X0.ireturnOut hx Bd.returns rfl (Or.inl rfl) (hb hby own_d_method_2_code_9) hr) ?_ (by decide) (by decide)
    show own_Q_rm11 Z q1 h0 n0 _ s₁.heap _
    rw [e0]
    exact ⟨by simp [own_len, hc4], N0, rfl⟩
  · refine OGo.st (fun _ k_ => XT.lcmp X0.here hx rfl (hb hby own_d_method_2_code_4) rfl k_) ?_
    show OGo p.tables e below _ (s₁.setTop (mkF m 5 #[.val (.long q1), .second] [(.int (XT.cmpL q1 (128 : Int64)))]))
    refine OGo.st (fun _ k_ => XS.ifYes X0.here hx rfl (pc0 := 5) (pc' := 10) rfl (hb hby own_d_method_2_code_5) rfl (XT.ll_ge_t hc4) (by decide) (by decide) k_) ?_
    show OGo p.tables e below _ (s₁.setTop (mkF m 10 #[.val (.long q1), .second] []))
    refine OGo.st (fun _ k_ => XS.lloadN X0.here hx rfl (hb hby own_d_method_2_code_10) rfl k_) ?_
    show OGo p.tables e below _ (s₁.setTop (mkF m 11 #[.val (.long q1), .second] [(.long q1)]))
    refine OGo.st (fun _ k_ => X0.ldc2J hx hown (mvT hZ (hw _ (List.mem_of_getElem? (i := 39) rfl))) rfl (hb hby own_d_method_2_code_11) k_) ?_
    show OGo p.tables e below _ (s₁.setTop (mkF m 14 #[.val (.long q1), .second] [(.long (16384 : Int64)), (.long q1)]))
    by_cases hc14 : q1 < (16384 : Int64)
    · refine OGo.st (fun _ k_ => XT.lcmp X0.here hx rfl (hb hby own_d_method_2_code_14) rfl k_) ?_
      show OGo p.tables e below _ (s₁.setTop (mkF m 15 #[.val (.long q1), .second] [(.int (XT.cmpL q1 (16384 : Int64)))]))
      refine OGo.st (fun _ k_ => XS.ifNo X0.here hx rfl (hb hby own_d_method_2_code_15) rfl (XT.ll_ge_f hc14) k_) ?_
      show OGo p.tables e below _ (s₁.setTop (mkF m 18 #[.val (.long q1), .second] []))
      refine OGo.st (fun _ k_ => XS.iconst X0.here hx rfl (hb hby own_d_method_2_code_18) k_) ?_
      show OGo p.tables e below _ (s₁.setTop (mkF m 19 #[.val (.long q1), .second] [(.int (2 : Int32))]))
      refine OGo.fin X0 (v := some (.int (2 : Int32))) (fun h => by rw [Bd.returns] at h; cases h) hlk (fun fs hr => X0.ireturnOut hx Bd.returns rfl (Or.inl rfl) (hb hby own_d_method_2_code_19) hr) ?_ (by decide) (by decide)
      show own_Q_rm11 Z q1 h0 n0 _ s₁.heap _
      rw [e0]
      exact ⟨by simp [own_len, hc4, hc14], N0, rfl⟩
    · refine OGo.st (fun _ k_ => XT.lcmp X0.here hx rfl (hb hby own_d_method_2_code_14) rfl k_) ?_
      show OGo p.tables e below _ (s₁.setTop (mkF m 15 #[.val (.long q1), .second] [(.int (XT.cmpL q1 (16384 : Int64)))]))
      refine OGo.st (fun _ k_ => XS.ifYes X0.here hx rfl (pc0 := 15) (pc' := 20) rfl (hb hby own_d_method_2_code_15) rfl (XT.ll_ge_t hc14) (by decide) (by decide) k_) ?_
      show OGo p.tables e below _ (s₁.setTop (mkF m 20 #[.val (.long q1), .second] []))
      refine OGo.st (fun _ k_ => XS.lloadN X0.here hx rfl (hb hby own_d_method_2_code_20) rfl k_) ?_
      show OGo p.tables e below _ (s₁.setTop (mkF m 21 #[.val (.long q1), .second] [(.long q1)]))
      refine OGo.st (fun _ k_ => X0.ldc2J hx hown (mvT hZ (hw _ (List.mem_of_getElem? (i := 40) rfl))) rfl (hb hby own_d_method_2_code_21) k_) ?_
      show OGo p.tables e below _ (s₁.setTop (mkF m 24 #[.val (.long q1), .second] [(.long (2097152 : Int64)), (.long q1)]))
      by_cases hc24 : q1 < (2097152 : Int64)
      · refine OGo.st (fun _ k_ => XT.lcmp X0.here hx rfl (hb hby own_d_method_2_code_24) rfl k_) ?_
        show OGo p.tables e below _ (s₁.setTop (mkF m 25 #[.val (.long q1), .second] [(.int (XT.cmpL q1 (2097152 : Int64)))]))
        refine OGo.st (fun _ k_ => XS.ifNo X0.here hx rfl (hb hby own_d_method_2_code_25) rfl (XT.ll_ge_f hc24) k_) ?_
        show OGo p.tables e below _ (s₁.setTop (mkF m 28 #[.val (.long q1), .second] []))
        refine OGo.st (fun _ k_ => XS.iconst X0.here hx rfl (hb hby own_d_method_2_code_28) k_) ?_
        show OGo p.tables e below _ (s₁.setTop (mkF m 29 #[.val (.long q1), .second] [(.int (3 : Int32))]))
        refine OGo.fin X0 (v := some (.int (3 : Int32))) (fun h => by rw [Bd.returns] at h; cases h) hlk (fun fs hr => X0.ireturnOut hx Bd.returns rfl (Or.inl rfl) (hb hby own_d_method_2_code_29) hr) ?_ (by decide) (by decide)
        show own_Q_rm11 Z q1 h0 n0 _ s₁.heap _
        rw [e0]
        exact ⟨by simp [own_len, hc4, hc14, hc24], N0, rfl⟩
      · refine OGo.st (fun _ k_ => XT.lcmp X0.here hx rfl (hb hby own_d_method_2_code_24) rfl k_) ?_
        show OGo p.tables e below _ (s₁.setTop (mkF m 25 #[.val (.long q1), .second] [(.int (XT.cmpL q1 (2097152 : Int64)))]))
        refine OGo.st (fun _ k_ => XS.ifYes X0.here hx rfl (pc0 := 25) (pc' := 30) rfl (hb hby own_d_method_2_code_25) rfl (XT.ll_ge_t hc24) (by decide) (by decide) k_) ?_
        show OGo p.tables e below _ (s₁.setTop (mkF m 30 #[.val (.long q1), .second] []))
        refine OGo.st (fun _ k_ => XS.lloadN X0.here hx rfl (hb hby own_d_method_2_code_30) rfl k_) ?_
        show OGo p.tables e below _ (s₁.setTop (mkF m 31 #[.val (.long q1), .second] [(.long q1)]))
        refine OGo.st (fun _ k_ => X0.ldc2J hx hown (mvT hZ (hw _ (List.mem_of_getElem? (i := 41) rfl))) rfl (hb hby own_d_method_2_code_31) k_) ?_
        show OGo p.tables e below _ (s₁.setTop (mkF m 34 #[.val (.long q1), .second] [(.long (268435456 : Int64)), (.long q1)]))
        by_cases hc34 : q1 < (268435456 : Int64)
        · refine OGo.st (fun _ k_ => XT.lcmp X0.here hx rfl (hb hby own_d_method_2_code_34) rfl k_) ?_
          show OGo p.tables e below _ (s₁.setTop (mkF m 35 #[.val (.long q1), .second] [(.int (XT.cmpL q1 (268435456 : Int64)))]))
          refine OGo.st (fun _ k_ => XS.ifNo X0.here hx rfl (hb hby own_d_method_2_code_35) rfl (XT.ll_ge_f hc34) k_) ?_
          show OGo p.tables e below _ (s₁.setTop (mkF m 38 #[.val (.long q1), .second] []))
          refine OGo.st (fun _ k_ => XS.iconst X0.here hx rfl (hb hby own_d_method_2_code_38) k_) ?_
          show OGo p.tables e below _ (s₁.setTop (mkF m 39 #[.val (.long q1), .second] [(.int (4 : Int32))]))
          refine OGo.fin X0 (v := some (.int (4 : Int32))) (fun h => by rw [Bd.returns] at h; cases h) hlk (fun fs hr => X0.ireturnOut hx Bd.returns rfl (Or.inl rfl) (hb hby own_d_method_2_code_39) hr) ?_ (by decide) (by decide)
          show own_Q_rm11 Z q1 h0 n0 _ s₁.heap _
          rw [e0]
          exact ⟨by simp [own_len, hc4, hc14, hc24, hc34], N0, rfl⟩
        · refine OGo.st (fun _ k_ => XT.lcmp X0.here hx rfl (hb hby own_d_method_2_code_34) rfl k_) ?_
          show OGo p.tables e below _ (s₁.setTop (mkF m 35 #[.val (.long q1), .second] [(.int (XT.cmpL q1 (268435456 : Int64)))]))
          refine OGo.st (fun _ k_ => XS.ifYes X0.here hx rfl (pc0 := 35) (pc' := 40) rfl (hb hby own_d_method_2_code_35) rfl (XT.ll_ge_t hc34) (by decide) (by decide) k_) ?_
          show OGo p.tables e below _ (s₁.setTop (mkF m 40 #[.val (.long q1), .second] []))
          refine OGo.st (fun _ k_ => XS.lloadN X0.here hx rfl (hb hby own_d_method_2_code_40) rfl k_) ?_
          show OGo p.tables e below _ (s₁.setTop (mkF m 41 #[.val (.long q1), .second] [(.long q1)]))
          refine OGo.st (fun _ k_ => X0.ldc2J hx hown (mvT hZ (hw _ (List.mem_of_getElem? (i := 42) rfl))) rfl (hb hby own_d_method_2_code_41) k_) ?_
          show OGo p.tables e below _ (s₁.setTop (mkF m 44 #[.val (.long q1), .second] [(.long (34359738368 : Int64)), (.long q1)]))
          by_cases hc44 : q1 < (34359738368 : Int64)
          · refine OGo.st (fun _ k_ => XT.lcmp X0.here hx rfl (hb hby own_d_method_2_code_44) rfl k_) ?_
            show OGo p.tables e below _ (s₁.setTop (mkF m 45 #[.val (.long q1), .second] [(.int (XT.cmpL q1 (34359738368 : Int64)))]))
            refine OGo.st (fun _ k_ => XS.ifNo X0.here hx rfl (hb hby own_d_method_2_code_45) rfl (XT.ll_ge_f hc44) k_) ?_
            show OGo p.tables e below _ (s₁.setTop (mkF m 48 #[.val (.long q1), .second] []))
            refine OGo.st (fun _ k_ => XS.iconst X0.here hx rfl (hb hby own_d_method_2_code_48) k_) ?_
            show OGo p.tables e below _ (s₁.setTop (mkF m 49 #[.val (.long q1), .second] [(.int (5 : Int32))]))
            refine OGo.fin X0 (v := some (.int (5 : Int32))) (fun h => by rw [Bd.returns] at h; cases h) hlk (fun fs hr => X0.ireturnOut hx Bd.returns rfl (Or.inl rfl) (hb hby own_d_method_2_code_49) hr) ?_ (by decide) (by decide)
            show own_Q_rm11 Z q1 h0 n0 _ s₁.heap _
            rw [e0]
            exact ⟨by simp [own_len, hc4, hc14, hc24, hc34, hc44], N0, rfl⟩
          · refine OGo.st (fun _ k_ => XT.lcmp X0.here hx rfl (hb hby own_d_method_2_code_44) rfl k_) ?_
            show OGo p.tables e below _ (s₁.setTop (mkF m 45 #[.val (.long q1), .second] [(.int (XT.cmpL q1 (34359738368 : Int64)))]))
            refine OGo.st (fun _ k_ => XS.ifYes X0.here hx rfl (pc0 := 45) (pc' := 50) rfl (hb hby own_d_method_2_code_45) rfl (XT.ll_ge_t hc44) (by decide) (by decide) k_) ?_
            show OGo p.tables e below _ (s₁.setTop (mkF m 50 #[.val (.long q1), .second] []))
            refine OGo.st (fun _ k_ => XS.lloadN X0.here hx rfl (hb hby own_d_method_2_code_50) rfl k_) ?_
            show OGo p.tables e below _ (s₁.setTop (mkF m 51 #[.val (.long q1), .second] [(.long q1)]))
            refine OGo.st (fun _ k_ => X0.ldc2J hx hown (mvT hZ (hw _ (List.mem_of_getElem? (i := 43) rfl))) rfl (hb hby own_d_method_2_code_51) k_) ?_
            show OGo p.tables e below _ (s₁.setTop (mkF m 54 #[.val (.long q1), .second] [(.long (4398046511104 : Int64)), (.long q1)]))
            by_cases hc54 : q1 < (4398046511104 : Int64)
            · refine OGo.st (fun _ k_ => XT.lcmp X0.here hx rfl (hb hby own_d_method_2_code_54) rfl k_) ?_
              show OGo p.tables e below _ (s₁.setTop (mkF m 55 #[.val (.long q1), .second] [(.int (XT.cmpL q1 (4398046511104 : Int64)))]))
              refine OGo.st (fun _ k_ => XS.ifNo X0.here hx rfl (hb hby own_d_method_2_code_55) rfl (XT.ll_ge_f hc54) k_) ?_
              show OGo p.tables e below _ (s₁.setTop (mkF m 58 #[.val (.long q1), .second] []))
              refine OGo.st (fun _ k_ => XS.bipush X0.here hx rfl (hb hby own_d_method_2_code_58) k_) ?_
              show OGo p.tables e below _ (s₁.setTop (mkF m 60 #[.val (.long q1), .second] [(.int (6 : Int32))]))
              refine OGo.fin X0 (v := some (.int (6 : Int32))) (fun h => by rw [Bd.returns] at h; cases h) hlk (fun fs hr => X0.ireturnOut hx Bd.returns rfl (Or.inl rfl) (hb hby own_d_method_2_code_60) hr) ?_ (by decide) (by decide)
              show own_Q_rm11 Z q1 h0 n0 _ s₁.heap _
              rw [e0]
              exact ⟨by simp [own_len, hc4, hc14, hc24, hc34, hc44, hc54], N0, rfl⟩
            · refine OGo.st (fun _ k_ => XT.lcmp X0.here hx rfl (hb hby own_d_method_2_code_54) rfl k_) ?_
              show OGo p.tables e below _ (s₁.setTop (mkF m 55 #[.val (.long q1), .second] [(.int (XT.cmpL q1 (4398046511104 : Int64)))]))
              refine OGo.st (fun _ k_ => XS.ifYes X0.here hx rfl (pc0 := 55) (pc' := 61) rfl (hb hby own_d_method_2_code_55) rfl (XT.ll_ge_t hc54) (by decide) (by decide) k_) ?_
              show OGo p.tables e below _ (s₁.setTop (mkF m 61 #[.val (.long q1), .second] []))
              refine OGo.st (fun _ k_ => XS.lloadN X0.here hx rfl (hb hby own_d_method_2_code_61) rfl k_) ?_
              show OGo p.tables e below _ (s₁.setTop (mkF m 62 #[.val (.long q1), .second] [(.long q1)]))
              refine OGo.st (fun _ k_ => X0.ldc2J hx hown (mvT hZ (hw _ (List.mem_of_getElem? (i := 44) rfl))) rfl (hb hby own_d_method_2_code_62) k_) ?_
              show OGo p.tables e below _ (s₁.setTop (mkF m 65 #[.val (.long q1), .second] [(.long (562949953421312 : Int64)), (.long q1)]))
              by_cases hc65 : q1 < (562949953421312 : Int64)
              · refine OGo.st (fun _ k_ => XT.lcmp X0.here hx rfl (hb hby own_d_method_2_code_65) rfl k_) ?_
                show OGo p.tables e below _ (s₁.setTop (mkF m 66 #[.val (.long q1), .second] [(.int (XT.cmpL q1 (562949953421312 : Int64)))]))
                refine OGo.st (fun _ k_ => XS.ifNo X0.here hx rfl (hb hby own_d_method_2_code_66) rfl (XT.ll_ge_f hc65) k_) ?_
                show OGo p.tables e below _ (s₁.setTop (mkF m 69 #[.val (.long q1), .second] []))
                refine OGo.st (fun _ k_ => XS.bipush X0.here hx rfl (hb hby own_d_method_2_code_69) k_) ?_
                show OGo p.tables e below _ (s₁.setTop (mkF m 71 #[.val (.long q1), .second] [(.int (7 : Int32))]))
                refine OGo.fin X0 (v := some (.int (7 : Int32))) (fun h => by rw [Bd.returns] at h; cases h) hlk (fun fs hr => X0.ireturnOut hx Bd.returns rfl (Or.inl rfl) (hb hby own_d_method_2_code_71) hr) ?_ (by decide) (by decide)
                show own_Q_rm11 Z q1 h0 n0 _ s₁.heap _
                rw [e0]
                exact ⟨by simp [own_len, hc4, hc14, hc24, hc34, hc44, hc54, hc65], N0, rfl⟩
              · refine OGo.st (fun _ k_ => XT.lcmp X0.here hx rfl (hb hby own_d_method_2_code_65) rfl k_) ?_
                show OGo p.tables e below _ (s₁.setTop (mkF m 66 #[.val (.long q1), .second] [(.int (XT.cmpL q1 (562949953421312 : Int64)))]))
                refine OGo.st (fun _ k_ => XS.ifYes X0.here hx rfl (pc0 := 66) (pc' := 72) rfl (hb hby own_d_method_2_code_66) rfl (XT.ll_ge_t hc65) (by decide) (by decide) k_) ?_
                show OGo p.tables e below _ (s₁.setTop (mkF m 72 #[.val (.long q1), .second] []))
                refine OGo.st (fun _ k_ => XS.lloadN X0.here hx rfl (hb hby own_d_method_2_code_72) rfl k_) ?_
                show OGo p.tables e below _ (s₁.setTop (mkF m 73 #[.val (.long q1), .second] [(.long q1)]))
                refine OGo.st (fun _ k_ => X0.ldc2J hx hown (mvT hZ (hw _ (List.mem_of_getElem? (i := 45) rfl))) rfl (hb hby own_d_method_2_code_73) k_) ?_
                show OGo p.tables e below _ (s₁.setTop (mkF m 76 #[.val (.long q1), .second] [(.long (72057594037927936 : Int64)), (.long q1)]))
                by_cases hc76 : q1 < (72057594037927936 : Int64)
                · refine OGo.st (fun _ k_ => XT.lcmp X0.here hx rfl (hb hby own_d_method_2_code_76) rfl k_) ?_
                  show OGo p.tables e below _ (s₁.setTop (mkF m 77 #[.val (.long q1), .second] [(.int (XT.cmpL q1 (72057594037927936 : Int64)))]))
                  refine OGo.st (fun _ k_ => XS.ifNo X0.here hx rfl (hb hby own_d_method_2_code_77) rfl (XT.ll_ge_f hc76) k_) ?_
                  show OGo p.tables e below _ (s₁.setTop (mkF m 80 #[.val (.long q1), .second] []))
                  refine OGo.st (fun _ k_ => XS.bipush X0.here hx rfl (hb hby own_d_method_2_code_80) k_) ?_
                  show OGo p.tables e below _ (s₁.setTop (mkF m 82 #[.val (.long q1), .second] [(.int (8 : Int32))]))
                  refine OGo.fin X0 (v := some (.int (8 : Int32))) (fun h => by rw [Bd.returns] at h; cases h) hlk (fun fs hr => X0.ireturnOut hx Bd.returns rfl (Or.inl rfl) (hb hby own_d_method_2_code_82) hr) ?_ (by decide) (by decide)
                  show own_Q_rm11 Z q1 h0 n0 _ s₁.heap _
                  rw [e0]
                  exact ⟨by simp [own_len, hc4, hc14, hc24, hc34, hc44, hc54, hc65, hc76], N0, rfl⟩
                · refine OGo.st (fun _ k_ => XT.lcmp X0.here hx rfl (hb hby own_d_method_2_code_76) rfl k_) ?_
                  show OGo p.tables e below _ (s₁.setTop (mkF m 77 #[.val (.long q1), .second] [(.int (XT.cmpL q1 (72057594037927936 : Int64)))]))
                  refine OGo.st (fun _ k_ => XS.ifYes X0.here hx rfl (pc0 := 77) (pc' := 83) rfl (hb hby own_d_method_2_code_77) rfl (XT.ll_ge_t hc76) (by decide) (by decide) k_) ?_
                  show OGo p.tables e below _ (s₁.setTop (mkF m 83 #[.val (.long q1), .second] []))
                  refine OGo.st (fun _ k_ => XS.bipush X0.here hx rfl (hb hby own_d_method_2_code_83) k_) ?_
                  show OGo p.tables e below _ (s₁.setTop (mkF m 85 #[.val (.long q1), .second] [(.int (9 : Int32))]))
                  refine OGo.fin X0 (v := some (.int (9 : Int32))) (fun h => by rw [Bd.returns] at h; cases h) hlk (fun fs hr => X0.ireturnOut hx Bd.returns rfl (Or.inl rfl) (hb hby own_d_method_2_code_85) hr) ?_ (by decide) (by decide)
                  show own_Q_rm11 Z q1 h0 n0 _ s₁.heap _
                  rw [e0]
                  exact ⟨by simp [own_len, hc4, hc14, hc24, hc34, hc44, hc54, hc65, hc76], N0, rfl⟩
theorem own_pd4 : parseMethodDescriptor "()V" = some ⟨[], none⟩ := by decide +kernel
theorem own_pd5 : parseMethodDescriptor "(J)V" = some ⟨[.long], none⟩ := by decide +kernel
theorem own_pd6 : parseMethodDescriptor "()I" = some ⟨[], some .int⟩ := by decide +kernel
theorem own_pd7 : parseMethodDescriptor "(J)I" = some ⟨[.long], some .int⟩ := by decide +kernel
theorem own_ef_rm0 (m : MethodId) (x0 : Int64) (x1 : Int64) : entryFrame m #[(.long x0), (.long x1)] maxLocals = mkF m 0 #[.val (.long x0), .second, .val (.long x1), .second, .unset, .unset, .unset, .unset, .unset, .unset, .unset] [] := by first | (simp [entryFrame, mkF, argsToLocals, Value.category, maxLocals]; done) | rfl
def own_Q_rm0 (Z : State) (q1 : Int64) (q2 : Int64) (h0 : Heap) (n0 : Nat) (v : Option Value) (h : Heap) (L : List Loc) : Prop := v = some (.int 1) ∧ Fr n0 L
set_option maxRecDepth 65536 in
set_option maxHeartbeats 40000000 in
theorem rm0 (l : Launch) (Z : State) (a0 : Array Value) (hw : ∀ d ∈ tables_1, d.before a0 Z = true) (ws : List Jvm.Cond) (q1 : Int64) (q2 : Int64) (h0 : Heap) (n0 : Nat) (Z0 : n0 ≤ h0.size)  :
    OMet l Z x code maxLocals ret ws room_1 #[(.long q1), (.long q2)] h0 (own_Q_rm0 Z q1 q2 h0 n0) := by
  refine MetFree.of_bodySF (plainFor_of_name own_pn2) hisR ?_
  intro p e s m args below meth c s₁ Bd hml0 hP hK
  obtain ⟨rfl, hZ, hh⟩ := hP
  have hx := Bd.exec
  have hby := Bd.bytes
  have hml : c.maxLocals = 11 := hml0
  have hown : s.vm.findClass "com/example/cari/cari/index/EncoderNumberPinLaw" = some m.cls := findClass_of_methodNamed Bd.named
  have hnm := (name_of_methodNamed Bd.named Bd.method).1
  have hlk : meth.locks = false := Bd.notSynchronized
  have X0 : Stand p l e room_1 s m #[(.long q1), (.long q2)] below meth c s₁ [] 0 0 := Stand.of_body Bd
  have e0 : s₁.heap = h0 := by rw [← hh, Bd.state]; rfl
  have N0 := Fr.nil n0
  refine OGo.enter (P := OPost s (own_Q_rm0 Z q1 q2 h0 n0) room_1.cells room_1.slots) (own_ef_rm0 m q1 q2) ?_
  show OGo p.tables e below _ (s₁.setTop (mkF m 0 #[.val (.long q1), .second, .val (.long q2), .second, .unset, .unset, .unset, .unset, .unset, .unset, .unset] []))
  refine OGo.st (fun _ k_ => XS.lloadN X0.here hx rfl (hb hby at_0) rfl k_) ?_
  show OGo p.tables e below _ (s₁.setTop (mkF m 1 #[.val (.long q1), .second, .val (.long q2), .second, .unset, .unset, .unset, .unset, .unset, .unset, .unset] [(.long q1)]))
  refine OGo.st (fun _ k_ => X0.ldc2J hx hown (mvT hZ (hw _ (List.mem_of_getElem? (i := 0) rfl))) rfl (hb hby at_1) k_) ?_
  show OGo p.tables e below _ (s₁.setTop (mkF m 4 #[.val (.long q1), .second, .val (.long q2), .second, .unset, .unset, .unset, .unset, .unset, .unset, .unset] [(.long (9223372036854775807 : Int64)), (.long q1)]))
  refine OGo.st (fun _ k_ => XS.land X0.here hx rfl (hb hby at_4) rfl k_) ?_
  show OGo p.tables e below _ (s₁.setTop (mkF m 5 #[.val (.long q1), .second, .val (.long q2), .second, .unset, .unset, .unset, .unset, .unset, .unset, .unset] [(.long (q1 &&& (9223372036854775807 : Int64)))]))
  obtain ⟨xa, hxa⟩ : ∃ z : Int64, z = (q1 &&& (9223372036854775807 : Int64)) := ⟨_, rfl⟩
  rw [← hxa]
  have qa : 0 ≤ xa.toInt := by rw [hxa]; exact own_mask _
  show OGo p.tables e below _ (s₁.setTop (mkF m 5 #[.val (.long q1), .second, .val (.long q2), .second, .unset, .unset, .unset, .unset, .unset, .unset, .unset] [(.long xa)]))
  refine OGo.st (fun _ k_ => XS.lstore X0.here hx rfl (hb hby at_5) rfl (l' := #[.val (.long q1), .second, .val (.long q2), .second, .val (.long xa), .second, .unset, .unset, .unset, .unset, .unset]) rfl k_) ?_
  show OGo p.tables e below _ (s₁.setTop (mkF m 7 #[.val (.long q1), .second, .val (.long q2), .second, .val (.long xa), .second, .unset, .unset, .unset, .unset, .unset] []))
  refine OGo.st (fun _ k_ => XS.lloadN X0.here hx rfl (hb hby at_7) rfl k_) ?_
  show OGo p.tables e below _ (s₁.setTop (mkF m 8 #[.val (.long q1), .second, .val (.long q2), .second, .val (.long xa), .second, .unset, .unset, .unset, .unset, .unset] [(.long q2)]))
  refine OGo.st (fun _ k_ => X0.ldc2J hx hown (mvT hZ (hw _ (List.mem_of_getElem? (i := 0) rfl))) rfl (hb hby at_8) k_) ?_
  show OGo p.tables e below _ (s₁.setTop (mkF m 11 #[.val (.long q1), .second, .val (.long q2), .second, .val (.long xa), .second, .unset, .unset, .unset, .unset, .unset] [(.long (9223372036854775807 : Int64)), (.long q2)]))
  refine OGo.st (fun _ k_ => XS.land X0.here hx rfl (hb hby at_11) rfl k_) ?_
  show OGo p.tables e below _ (s₁.setTop (mkF m 12 #[.val (.long q1), .second, .val (.long q2), .second, .val (.long xa), .second, .unset, .unset, .unset, .unset, .unset] [(.long (q2 &&& (9223372036854775807 : Int64)))]))
  obtain ⟨xb, hxb⟩ : ∃ z : Int64, z = (q2 &&& (9223372036854775807 : Int64)) := ⟨_, rfl⟩
  rw [← hxb]
  have qb : 0 ≤ xb.toInt := by rw [hxb]; exact own_mask _
  show OGo p.tables e below _ (s₁.setTop (mkF m 12 #[.val (.long q1), .second, .val (.long q2), .second, .val (.long xa), .second, .unset, .unset, .unset, .unset, .unset] [(.long xb)]))
  refine OGo.st (fun _ k_ => XS.lstore X0.here hx rfl (hb hby at_12) rfl (l' := #[.val (.long q1), .second, .val (.long q2), .second, .val (.long xa), .second, .val (.long xb), .second, .unset, .unset, .unset]) rfl k_) ?_
  show OGo p.tables e below _ (s₁.setTop (mkF m 14 #[.val (.long q1), .second, .val (.long q2), .second, .val (.long xa), .second, .val (.long xb), .second, .unset, .unset, .unset] []))
  obtain ⟨T1, hz1, X1, ez1, Ez1, Az1, Dz1, -, st1⟩ := newO X0 hx hZ hown (hw _ (List.mem_of_getElem? (i := 1) rfl)) (hw _ (List.mem_of_getElem? (i := 2) rfl)) (hw _ (List.mem_of_getElem? (i := 3) rfl)) e0 (g := (mkF m 14 #[.val (.long q1), .second, .val (.long q2), .second, .val (.long xa), .second, .val (.long xb), .second, .unset, .unset, .unset] [])) rfl (hb hby at_14) (by decide) (by decide)
  obtain ⟨bz1, g1⟩ : ∃ z, z = h0.size := ⟨_, rfl⟩
  rw [← g1] at Az1 Dz1 st1
  have g_bz1 : n0 ≤ bz1 := Nat.le_trans (Nat.le_trans Z0 (Keep.refl h0 []).1) (Nat.le_of_eq g1.symm)
  have sz_bz1 : h0.size ≤ bz1 := Nat.le_trans (Keep.refl h0 []).1 (Nat.le_of_eq g1.symm)
  have K_2 : Keep h0 hz1 [] := (Keep.refl h0 []).ext Ez1
  have F_bytes_1 : Fld Z hz1 bz1 "com/example/cari/cari/index/Encoder" "bytes" "[B" .null := Dz1 (Or.inl (hw _ (List.mem_of_getElem? (i := 12) rfl))) (ty := (.array .byte)) (by decide)
  have F_size_1 : Fld Z hz1 bz1 "com/example/cari/cari/index/Encoder" "size" "I" (.int (0 : Int32)) := Dz1 (Or.inl (hw _ (List.mem_of_getElem? (i := 28) rfl))) (ty := .int) (by decide)
  refine OGo.st st1 ?_
  show OGo p.tables e below _ (T1.setTop (mkF m 17 #[.val (.long q1), .second, .val (.long q2), .second, .val (.long xa), .second, .val (.long xb), .second, .unset, .unset, .unset] [(.ref bz1)]))
  refine OGo.st (fun _ k_ => XS.dup X1.here hx rfl (hb hby at_17) rfl rfl k_) ?_
  show OGo p.tables e below _ (T1.setTop (mkF m 18 #[.val (.long q1), .second, .val (.long q2), .second, .val (.long xa), .second, .val (.long xb), .second, .unset, .unset, .unset] [(.ref bz1), (.ref bz1)]))
  obtain ⟨_, _, ⟨T3, Lz3, kz3, nz3⟩, -, X3, ⟨Lc3, hQ3, lz3, yz3, zz3⟩, st3⟩ := X1.specialBack hx (y := (⟨"com/example/cari/cari/index/Encoder", "<init>", "()V"⟩ : MethodName)) rfl hown (mvT hZ (hw _ (List.mem_of_getElem? (i := 4) rfl))) (mvT hZ (hw _ (List.mem_of_getElem? (i := 5) rfl))) (mvT hZ (hw _ (List.mem_of_getElem? (i := 6) rfl))) (by decide) (backOf (W := 1) (rm1 l Z a0 hw [] bz1 hz1 n0 (Nat.le_trans Z0 K_2.1) Az1 F_bytes_1 F_size_1 g_bz1) hZ (hw _ (List.mem_of_getElem? (i := 6) rfl)) (hw _ (List.mem_of_getElem? (i := 3) rfl)) (by decide) (by decide)) (g := (mkF m 18 #[.val (.long q1), .second, .val (.long q2), .second, .val (.long xa), .second, .val (.long xb), .second, .unset, .unset, .unset] [(.ref bz1), (.ref bz1)])) rfl (by rw [hml]; rfl) (Steps.refl _) (a := bz1) (argsL := []) (rest := [(.ref bz1)]) (lenOf own_pd4 rfl) rfl (by show 2 * 0 + _ ≤ _; exact Nat.le_of_eq rfl) (hb hby at_18) (fun _ _ => ⟨rfl, ez1, (by decide : 1 + 1 ≤ _), (by decide : 2 + 16 ≤ _)⟩)
  dsimp only [Pt.U, Pt.locs, Pt.cells, Pt.slots] at X3 lz3 yz3 zz3 st3 hQ3
  subst lz3 yz3 zz3
  obtain ⟨rfl, Nq3, Zq3, Eq3⟩ := hQ3
  have N3 := Fr.app N0 Nq3
  obtain ⟨eb4, ek4, ef4, eE4, eB4, eS4, eA4, eg4, en4⟩ := Eq3
  refine OGo.tr st3 ?_
  show OGo p.tables e below _ (T3.setTop (mkF m 21 #[.val (.long q1), .second, .val (.long q2), .second, .val (.long xa), .second, .val (.long xb), .second, .unset, .unset, .unset] [(.ref bz1)]))
  refine OGo.st (fun _ k_ => XS.astore X3.here hx rfl (hb hby at_21) rfl rfl (l' := #[.val (.long q1), .second, .val (.long q2), .second, .val (.long xa), .second, .val (.long xb), .second, .val (.ref bz1), .unset, .unset]) rfl k_) ?_
  show OGo p.tables e below _ (T3.setTop (mkF m 23 #[.val (.long q1), .second, .val (.long q2), .second, .val (.long xa), .second, .val (.long xb), .second, .val (.ref bz1), .unset, .unset] []))
  refine OGo.st (fun _ k_ => XS.aload X3.here hx rfl (hb hby at_23) rfl rfl k_) ?_
  show OGo p.tables e below _ (T3.setTop (mkF m 25 #[.val (.long q1), .second, .val (.long q2), .second, .val (.long xa), .second, .val (.long xb), .second, .val (.ref bz1), .unset, .unset] [(.ref bz1)]))
  refine OGo.st (fun _ k_ => XS.lload X3.here hx rfl (hb hby at_25) rfl k_) ?_
  show OGo p.tables e below _ (T3.setTop (mkF m 27 #[.val (.long q1), .second, .val (.long q2), .second, .val (.long xa), .second, .val (.long xb), .second, .val (.ref bz1), .unset, .unset] [(.long xa), (.ref bz1)]))
  obtain ⟨cq5, kqz5, qz5a, qz5b, qz5c⟩ := isOf hZ rfl eE4
  obtain ⟨_, _, ⟨T5, Lz5, kz5, nz5⟩, -, X5, ⟨Lc5, hQ5, lz5, yz5, zz5⟩, st5⟩ := X3.virtualBack hx (y := (⟨"com/example/cari/cari/index/Encoder", "number", "(J)V"⟩ : MethodName)) (z := (⟨"com/example/cari/cari/index/Encoder", "number", "(J)V"⟩ : MethodName)) hown (mvT hZ (hw _ (List.mem_of_getElem? (i := 13) rfl))) (mvT hZ (hw _ (List.mem_of_getElem? (i := 14) rfl))) (notFace_of_selects (args := #[]) (mvT hZ (hw _ (List.mem_of_getElem? (i := 16) rfl)))) (mvT hZ (hw _ (List.mem_of_getElem? (i := 16) rfl))) (mvT hZ (hw _ (List.mem_of_getElem? (i := 15) rfl))) (by decide) (backOf (W := 0) (rm9 l Z a0 hw [] bz1 xa (0 : Int32) 16 T3.heap n0 Zq3 g_bz1 ⟨eb4, ek4, _, eE4, eB4, eS4, eA4, eg4, en4⟩ qa (by decide) (by decide) (Or.inl rfl)) hZ (hw _ (List.mem_of_getElem? (i := 17) rfl)) (hw _ (List.mem_of_getElem? (i := 3) rfl)) (by decide) (by decide)) qz5a qz5c (g := (mkF m 27 #[.val (.long q1), .second, .val (.long q2), .second, .val (.long xa), .second, .val (.long xb), .second, .val (.ref bz1), .unset, .unset] [(.long xa), (.ref bz1)])) rfl (by rw [hml]; rfl) (Steps.refl _) (argsL := [(.long xa)]) (rest := []) (lenOf own_pd5 rfl) rfl (by show 2 * 0 + _ ≤ _; exact Nat.le_of_eq rfl) (hb hby at_27) (fun _ _ => ⟨rfl, rfl, (by decide : 2 + 1 ≤ _), (by decide : 18 + 32 ≤ _)⟩)
  dsimp only [Pt.U, Pt.locs, Pt.cells, Pt.slots] at X5 lz5 yz5 zz5 st5 hQ5
  subst lz5 yz5 zz5
  obtain ⟨rfl, Nq5, Zq5, nq5, hnq5, Eq5⟩ := hQ5
  have N5 := Fr.app N3 Nq5
  obtain ⟨eb6, ek6, ef6, eE6, eB6, eS6, eA6, eg6, en6⟩ := Eq5
  refine OGo.tr st5 ?_
  show OGo p.tables e below _ (T5.setTop (mkF m 30 #[.val (.long q1), .second, .val (.long q2), .second, .val (.long xa), .second, .val (.long xb), .second, .val (.ref bz1), .unset, .unset] []))
  refine OGo.st (fun _ k_ => XS.aload X5.here hx rfl (hb hby at_30) rfl rfl k_) ?_
  show OGo p.tables e below _ (T5.setTop (mkF m 32 #[.val (.long q1), .second, .val (.long q2), .second, .val (.long xa), .second, .val (.long xb), .second, .val (.ref bz1), .unset, .unset] [(.ref bz1)]))
  obtain ⟨cq7, kqz7, qz7a, qz7b, qz7c⟩ := isOf hZ rfl eE6
  obtain ⟨_, _, ⟨T7, Lz7, kz7, nz7⟩, -, X7, ⟨Lc7, hQ7, lz7, yz7, zz7⟩, st7⟩ := X5.virtualBack hx (y := (⟨"com/example/cari/cari/index/Encoder", "size", "()I"⟩ : MethodName)) (z := (⟨"com/example/cari/cari/index/Encoder", "size", "()I"⟩ : MethodName)) hown (mvT hZ (hw _ (List.mem_of_getElem? (i := 29) rfl))) (mvT hZ (hw _ (List.mem_of_getElem? (i := 30) rfl))) (notFace_of_selects (args := #[]) (mvT hZ (hw _ (List.mem_of_getElem? (i := 32) rfl)))) (mvT hZ (hw _ (List.mem_of_getElem? (i := 32) rfl))) (mvT hZ (hw _ (List.mem_of_getElem? (i := 31) rfl))) (by decide) (backOf (W := 0) (rm10 l Z a0 hw [] bz1 ((0 : Int32) + (own_len xa)) T5.heap n0 Zq5 eS6) hZ (hw _ (List.mem_of_getElem? (i := 33) rfl)) (hw _ (List.mem_of_getElem? (i := 3) rfl)) (by decide) (by decide)) qz7a qz7c (g := (mkF m 32 #[.val (.long q1), .second, .val (.long q2), .second, .val (.long xa), .second, .val (.long xb), .second, .val (.ref bz1), .unset, .unset] [(.ref bz1)])) rfl (by rw [hml]; rfl) (Steps.refl _) (argsL := []) (rest := []) (lenOf own_pd6 rfl) rfl (by show 2 * 0 + _ ≤ _; exact Nat.le_of_eq rfl) (hb hby at_32) (fun _ _ => ⟨rfl, rfl, (by decide : 3 + 0 ≤ _), (by decide : 50 + 0 ≤ _)⟩)
  dsimp only [Pt.U, Pt.locs, Pt.cells, Pt.slots] at X7 lz7 yz7 zz7 st7 hQ7
  subst lz7 yz7 zz7
  obtain ⟨rfl, Nq7, ez7⟩ := hQ7
  have N7 := Fr.app N5 Nq7
  refine OGo.tr st7 ?_
  show OGo p.tables e below _ (T7.setTop (mkF m 35 #[.val (.long q1), .second, .val (.long q2), .second, .val (.long xa), .second, .val (.long xb), .second, .val (.ref bz1), .unset, .unset] [(.int ((0 : Int32) + (own_len xa)))]))
  refine OGo.st (fun _ k_ => XS.istore X7.here hx rfl (hb hby at_35) rfl (l' := #[.val (.long q1), .second, .val (.long q2), .second, .val (.long xa), .second, .val (.long xb), .second, .val (.ref bz1), .val (.int ((0 : Int32) + (own_len xa))), .unset]) rfl k_) ?_
  show OGo p.tables e below _ (T7.setTop (mkF m 37 #[.val (.long q1), .second, .val (.long q2), .second, .val (.long xa), .second, .val (.long xb), .second, .val (.ref bz1), .val (.int ((0 : Int32) + (own_len xa))), .unset] []))
  refine OGo.st (fun _ k_ => XS.aload X7.here hx rfl (hb hby at_37) rfl rfl k_) ?_
  show OGo p.tables e below _ (T7.setTop (mkF m 39 #[.val (.long q1), .second, .val (.long q2), .second, .val (.long xa), .second, .val (.long xb), .second, .val (.ref bz1), .val (.int ((0 : Int32) + (own_len xa))), .unset] [(.ref bz1)]))
  refine OGo.st (fun _ k_ => XS.lload X7.here hx rfl (hb hby at_39) rfl k_) ?_
  show OGo p.tables e below _ (T7.setTop (mkF m 41 #[.val (.long q1), .second, .val (.long q2), .second, .val (.long xa), .second, .val (.long xb), .second, .val (.ref bz1), .val (.int ((0 : Int32) + (own_len xa))), .unset] [(.long xb), (.ref bz1)]))
  obtain ⟨cq8, kqz8, qz8a, qz8b, qz8c⟩ := isOf hZ ez7 eE6
  obtain ⟨_, _, ⟨T8, Lz8, kz8, nz8⟩, -, X8, ⟨Lc8, hQ8, lz8, yz8, zz8⟩, st8⟩ := X7.virtualBack hx (y := (⟨"com/example/cari/cari/index/Encoder", "number", "(J)V"⟩ : MethodName)) (z := (⟨"com/example/cari/cari/index/Encoder", "number", "(J)V"⟩ : MethodName)) hown (mvT hZ (hw _ (List.mem_of_getElem? (i := 13) rfl))) (mvT hZ (hw _ (List.mem_of_getElem? (i := 14) rfl))) (notFace_of_selects (args := #[]) (mvT hZ (hw _ (List.mem_of_getElem? (i := 16) rfl)))) (mvT hZ (hw _ (List.mem_of_getElem? (i := 16) rfl))) (mvT hZ (hw _ (List.mem_of_getElem? (i := 15) rfl))) (by decide) (backOf (W := 0) (rm9 l Z a0 hw [] bz1 xb ((0 : Int32) + (own_len xa)) nq5 T5.heap n0 Zq5 g_bz1 ⟨eb6, ek6, _, eE6, eB6, eS6, eA6, eg6, en6⟩ qb (by rw [Int32.zero_add]; have := own_len_pos xa; omega) (by rw [Int32.zero_add]; have := own_len_pos xa; omega) hnq5) hZ (hw _ (List.mem_of_getElem? (i := 17) rfl)) (hw _ (List.mem_of_getElem? (i := 3) rfl)) (by decide) (by decide)) qz8a qz8c (g := (mkF m 41 #[.val (.long q1), .second, .val (.long q2), .second, .val (.long xa), .second, .val (.long xb), .second, .val (.ref bz1), .val (.int ((0 : Int32) + (own_len xa))), .unset] [(.long xb), (.ref bz1)])) rfl (by rw [hml]; rfl) (Steps.refl _) (argsL := [(.long xb)]) (rest := []) (lenOf own_pd5 rfl) rfl (by show 2 * 0 + _ ≤ _; exact Nat.le_of_eq rfl) (hb hby at_41) (fun _ _ => ⟨rfl, ez7, (by decide : 3 + 1 ≤ _), (by decide : 50 + 32 ≤ _)⟩)
  dsimp only [Pt.U, Pt.locs, Pt.cells, Pt.slots] at X8 lz8 yz8 zz8 st8 hQ8
  subst lz8 yz8 zz8
  obtain ⟨rfl, Nq8, Zq8, nq8, hnq8, Eq8⟩ := hQ8
  have N8 := Fr.app N7 Nq8
  obtain ⟨eb9, ek9, ef9, eE9, eB9, eS9, eA9, eg9, en9⟩ := Eq8
  refine OGo.tr st8 ?_
  show OGo p.tables e below _ (T8.setTop (mkF m 44 #[.val (.long q1), .second, .val (.long q2), .second, .val (.long xa), .second, .val (.long xb), .second, .val (.ref bz1), .val (.int ((0 : Int32) + (own_len xa))), .unset] []))
  refine OGo.st (fun _ k_ => XS.aload X8.here hx rfl (hb hby at_44) rfl rfl k_) ?_
  show OGo p.tables e below _ (T8.setTop (mkF m 46 #[.val (.long q1), .second, .val (.long q2), .second, .val (.long xa), .second, .val (.long xb), .second, .val (.ref bz1), .val (.int ((0 : Int32) + (own_len xa))), .unset] [(.ref bz1)]))
  obtain ⟨cq10, kqz10, qz10a, qz10b, qz10c⟩ := isOf hZ rfl eE9
  obtain ⟨_, _, ⟨T10, Lz10, kz10, nz10⟩, -, X10, ⟨Lc10, hQ10, lz10, yz10, zz10⟩, st10⟩ := X8.virtualBack hx (y := (⟨"com/example/cari/cari/index/Encoder", "size", "()I"⟩ : MethodName)) (z := (⟨"com/example/cari/cari/index/Encoder", "size", "()I"⟩ : MethodName)) hown (mvT hZ (hw _ (List.mem_of_getElem? (i := 29) rfl))) (mvT hZ (hw _ (List.mem_of_getElem? (i := 30) rfl))) (notFace_of_selects (args := #[]) (mvT hZ (hw _ (List.mem_of_getElem? (i := 32) rfl)))) (mvT hZ (hw _ (List.mem_of_getElem? (i := 32) rfl))) (mvT hZ (hw _ (List.mem_of_getElem? (i := 31) rfl))) (by decide) (backOf (W := 0) (rm10 l Z a0 hw [] bz1 (((0 : Int32) + (own_len xa)) + (own_len xb)) T8.heap n0 Zq8 eS9) hZ (hw _ (List.mem_of_getElem? (i := 33) rfl)) (hw _ (List.mem_of_getElem? (i := 3) rfl)) (by decide) (by decide)) qz10a qz10c (g := (mkF m 46 #[.val (.long q1), .second, .val (.long q2), .second, .val (.long xa), .second, .val (.long xb), .second, .val (.ref bz1), .val (.int ((0 : Int32) + (own_len xa))), .unset] [(.ref bz1)])) rfl (by rw [hml]; rfl) (Steps.refl _) (argsL := []) (rest := []) (lenOf own_pd6 rfl) rfl (by show 2 * 0 + _ ≤ _; exact Nat.le_of_eq rfl) (hb hby at_46) (fun _ _ => ⟨rfl, rfl, (by decide : 4 + 0 ≤ _), (by decide : 82 + 0 ≤ _)⟩)
  dsimp only [Pt.U, Pt.locs, Pt.cells, Pt.slots] at X10 lz10 yz10 zz10 st10 hQ10
  subst lz10 yz10 zz10
  obtain ⟨rfl, Nq10, ez10⟩ := hQ10
  have N10 := Fr.app N8 Nq10
  refine OGo.tr st10 ?_
  show OGo p.tables e below _ (T10.setTop (mkF m 49 #[.val (.long q1), .second, .val (.long q2), .second, .val (.long xa), .second, .val (.long xb), .second, .val (.ref bz1), .val (.int ((0 : Int32) + (own_len xa))), .unset] [(.int (((0 : Int32) + (own_len xa)) + (own_len xb)))]))
  refine OGo.st (fun _ k_ => XS.istore X10.here hx rfl (hb hby at_49) rfl (l' := #[.val (.long q1), .second, .val (.long q2), .second, .val (.long xa), .second, .val (.long xb), .second, .val (.ref bz1), .val (.int ((0 : Int32) + (own_len xa))), .val (.int (((0 : Int32) + (own_len xa)) + (own_len xb)))]) rfl k_) ?_
  show OGo p.tables e below _ (T10.setTop (mkF m 51 #[.val (.long q1), .second, .val (.long q2), .second, .val (.long xa), .second, .val (.long xb), .second, .val (.ref bz1), .val (.int ((0 : Int32) + (own_len xa))), .val (.int (((0 : Int32) + (own_len xa)) + (own_len xb)))] []))
  refine OGo.st (fun _ k_ => XS.iload X10.here hx rfl (hb hby at_51) rfl k_) ?_
  show OGo p.tables e below _ (T10.setTop (mkF m 53 #[.val (.long q1), .second, .val (.long q2), .second, .val (.long xa), .second, .val (.long xb), .second, .val (.ref bz1), .val (.int ((0 : Int32) + (own_len xa))), .val (.int (((0 : Int32) + (own_len xa)) + (own_len xb)))] [(.int ((0 : Int32) + (own_len xa)))]))
  refine OGo.st (fun _ k_ => XS.lload X10.here hx rfl (hb hby at_53) rfl k_) ?_
  show OGo p.tables e below _ (T10.setTop (mkF m 55 #[.val (.long q1), .second, .val (.long q2), .second, .val (.long xa), .second, .val (.long xb), .second, .val (.ref bz1), .val (.int ((0 : Int32) + (own_len xa))), .val (.int (((0 : Int32) + (own_len xa)) + (own_len xb)))] [(.long xa), (.int ((0 : Int32) + (own_len xa)))]))
  obtain ⟨_, _, ⟨T11, Lz11, kz11, nz11⟩, -, X11, ⟨Lc11, hQ11, lz11, yz11, zz11⟩, st11⟩ := Jvm.LawKit.callS X10 hx (y := (⟨"com/example/cari/cari/index/EncoderNumberPinLaw", "len", "(J)I"⟩ : MethodName)) hown (mvT hZ (hw _ (List.mem_of_getElem? (i := 34) rfl))) (mvT hZ (hw _ (List.mem_of_getElem? (i := 35) rfl))) (mvT hZ (hw _ (List.mem_of_getElem? (i := 36) rfl))) (mvT hZ (hw _ (List.mem_of_getElem? (i := 37) rfl))) (by decide) (backOf (W := 1) (rm11 l Z a0 hw [] xa T8.heap n0 Zq8 ) hZ (hw _ (List.mem_of_getElem? (i := 37) rfl)) (hw _ (List.mem_of_getElem? (i := 36) rfl)) (by decide) (by decide)) (g := (mkF m 55 #[.val (.long q1), .second, .val (.long q2), .second, .val (.long xa), .second, .val (.long xb), .second, .val (.ref bz1), .val (.int ((0 : Int32) + (own_len xa))), .val (.int (((0 : Int32) + (own_len xa)) + (own_len xb)))] [(.long xa), (.int ((0 : Int32) + (own_len xa)))])) rfl (by rw [hml]; rfl) (argsL := [(.long xa)]) (rest := [(.int ((0 : Int32) + (own_len xa)))]) (lenOf own_pd7 rfl) rfl (by show 2 * 0 + _ ≤ _; exact Nat.le_of_eq rfl) (hb hby at_55) (fun _ _ => ⟨rfl, ez10, (by decide : 4 + 0 ≤ _), (by decide : 82 + 0 ≤ _)⟩)
  dsimp only [Pt.U, Pt.locs, Pt.cells, Pt.slots] at X11 lz11 yz11 zz11 st11 hQ11
  subst lz11 yz11 zz11
  obtain ⟨rfl, Nq11, ez11⟩ := hQ11
  have N11 := Fr.app N10 Nq11
  refine OGo.st st11 ?_
  show OGo p.tables e below _ (T11.setTop (mkF m 58 #[.val (.long q1), .second, .val (.long q2), .second, .val (.long xa), .second, .val (.long xb), .second, .val (.ref bz1), .val (.int ((0 : Int32) + (own_len xa))), .val (.int (((0 : Int32) + (own_len xa)) + (own_len xb)))] [(.int (own_len xa)), (.int ((0 : Int32) + (own_len xa)))]))
  refine OGo.st (fun _ k_ => XS.icmpNo X11.here hx rfl (hb hby at_58) rfl (XT.ii_ne_f (Int32.zero_add _)) k_) ?_
  show OGo p.tables e below _ (T11.setTop (mkF m 61 #[.val (.long q1), .second, .val (.long q2), .second, .val (.long xa), .second, .val (.long xb), .second, .val (.ref bz1), .val (.int ((0 : Int32) + (own_len xa))), .val (.int (((0 : Int32) + (own_len xa)) + (own_len xb)))] []))
  refine OGo.st (fun _ k_ => XS.iload X11.here hx rfl (hb hby at_61) rfl k_) ?_
  show OGo p.tables e below _ (T11.setTop (mkF m 63 #[.val (.long q1), .second, .val (.long q2), .second, .val (.long xa), .second, .val (.long xb), .second, .val (.ref bz1), .val (.int ((0 : Int32) + (own_len xa))), .val (.int (((0 : Int32) + (own_len xa)) + (own_len xb)))] [(.int (((0 : Int32) + (own_len xa)) + (own_len xb)))]))
  refine OGo.st (fun _ k_ => XS.iload X11.here hx rfl (hb hby at_63) rfl k_) ?_
  show OGo p.tables e below _ (T11.setTop (mkF m 65 #[.val (.long q1), .second, .val (.long q2), .second, .val (.long xa), .second, .val (.long xb), .second, .val (.ref bz1), .val (.int ((0 : Int32) + (own_len xa))), .val (.int (((0 : Int32) + (own_len xa)) + (own_len xb)))] [(.int ((0 : Int32) + (own_len xa))), (.int (((0 : Int32) + (own_len xa)) + (own_len xb)))]))
  refine OGo.st (fun _ k_ => XS.lload X11.here hx rfl (hb hby at_65) rfl k_) ?_
  show OGo p.tables e below _ (T11.setTop (mkF m 67 #[.val (.long q1), .second, .val (.long q2), .second, .val (.long xa), .second, .val (.long xb), .second, .val (.ref bz1), .val (.int ((0 : Int32) + (own_len xa))), .val (.int (((0 : Int32) + (own_len xa)) + (own_len xb)))] [(.long xb), (.int ((0 : Int32) + (own_len xa))), (.int (((0 : Int32) + (own_len xa)) + (own_len xb)))]))
  obtain ⟨_, _, ⟨T12, Lz12, kz12, nz12⟩, -, X12, ⟨Lc12, hQ12, lz12, yz12, zz12⟩, st12⟩ := Jvm.LawKit.callS X11 hx (y := (⟨"com/example/cari/cari/index/EncoderNumberPinLaw", "len", "(J)I"⟩ : MethodName)) hown (mvT hZ (hw _ (List.mem_of_getElem? (i := 34) rfl))) (mvT hZ (hw _ (List.mem_of_getElem? (i := 35) rfl))) (mvT hZ (hw _ (List.mem_of_getElem? (i := 36) rfl))) (mvT hZ (hw _ (List.mem_of_getElem? (i := 37) rfl))) (by decide) (backOf (W := 2) (rm11 l Z a0 hw [] xb T8.heap n0 Zq8 ) hZ (hw _ (List.mem_of_getElem? (i := 37) rfl)) (hw _ (List.mem_of_getElem? (i := 36) rfl)) (by decide) (by decide)) (g := (mkF m 67 #[.val (.long q1), .second, .val (.long q2), .second, .val (.long xa), .second, .val (.long xb), .second, .val (.ref bz1), .val (.int ((0 : Int32) + (own_len xa))), .val (.int (((0 : Int32) + (own_len xa)) + (own_len xb)))] [(.long xb), (.int ((0 : Int32) + (own_len xa))), (.int (((0 : Int32) + (own_len xa)) + (own_len xb)))])) rfl (by rw [hml]; rfl) (argsL := [(.long xb)]) (rest := [(.int ((0 : Int32) + (own_len xa))), (.int (((0 : Int32) + (own_len xa)) + (own_len xb)))]) (lenOf own_pd7 rfl) rfl (by show 2 * 0 + _ ≤ _; exact Nat.le_of_eq rfl) (hb hby at_67) (fun _ _ => ⟨rfl, ez11, (by decide : 4 + 0 ≤ _), (by decide : 82 + 0 ≤ _)⟩)
  dsimp only [Pt.U, Pt.locs, Pt.cells, Pt.slots] at X12 lz12 yz12 zz12 st12 hQ12
  subst lz12 yz12 zz12
  obtain ⟨rfl, Nq12, ez12⟩ := hQ12
  have N12 := Fr.app N11 Nq12
  refine OGo.st st12 ?_
  show OGo p.tables e below _ (T12.setTop (mkF m 70 #[.val (.long q1), .second, .val (.long q2), .second, .val (.long xa), .second, .val (.long xb), .second, .val (.ref bz1), .val (.int ((0 : Int32) + (own_len xa))), .val (.int (((0 : Int32) + (own_len xa)) + (own_len xb)))] [(.int (own_len xb)), (.int ((0 : Int32) + (own_len xa))), (.int (((0 : Int32) + (own_len xa)) + (own_len xb)))]))
  refine OGo.st (fun _ k_ => XS.iadd X12.here hx rfl (hb hby at_70) rfl k_) ?_
  show OGo p.tables e below _ (T12.setTop (mkF m 71 #[.val (.long q1), .second, .val (.long q2), .second, .val (.long xa), .second, .val (.long xb), .second, .val (.ref bz1), .val (.int ((0 : Int32) + (own_len xa))), .val (.int (((0 : Int32) + (own_len xa)) + (own_len xb)))] [(.int (((0 : Int32) + (own_len xa)) + (own_len xb))), (.int (((0 : Int32) + (own_len xa)) + (own_len xb)))]))
  refine OGo.st (fun _ k_ => XS.icmpNo X12.here hx rfl (hb hby at_71) rfl (XT.ii_ne_f rfl) k_) ?_
  show OGo p.tables e below _ (T12.setTop (mkF m 74 #[.val (.long q1), .second, .val (.long q2), .second, .val (.long xa), .second, .val (.long xb), .second, .val (.ref bz1), .val (.int ((0 : Int32) + (own_len xa))), .val (.int (((0 : Int32) + (own_len xa)) + (own_len xb)))] []))
  refine OGo.st (fun _ k_ => XS.iconst X12.here hx rfl (hb hby at_74) k_) ?_
  show OGo p.tables e below _ (T12.setTop (mkF m 75 #[.val (.long q1), .second, .val (.long q2), .second, .val (.long xa), .second, .val (.long xb), .second, .val (.ref bz1), .val (.int ((0 : Int32) + (own_len xa))), .val (.int (((0 : Int32) + (own_len xa)) + (own_len xb)))] [(.int (1 : Int32))]))
  refine OGo.st (fun _ k_ => XS.goto X12.here hx rfl (pc0 := 75) (pc' := 79) rfl (hb hby at_75) (by decide) (by decide) k_) ?_
  show OGo p.tables e below _ (T12.setTop (mkF m 79 #[.val (.long q1), .second, .val (.long q2), .second, .val (.long xa), .second, .val (.long xb), .second, .val (.ref bz1), .val (.int ((0 : Int32) + (own_len xa))), .val (.int (((0 : Int32) + (own_len xa)) + (own_len xb)))] [(.int (1 : Int32))]))
  refine OGo.fin X12 (v := some (.int (1 : Int32))) (fun h => by rw [Bd.returns] at h; cases h) hlk (fun fs hr => X12.ireturnOut hx Bd.returns rfl (by simp) (hb hby at_79) hr) ?_ (by decide) (by decide)
  show own_Q_rm0 Z q1 q2 h0 n0 _ T12.heap _
  rw [ez12]
  exact ⟨rfl, N12⟩
set_option maxRecDepth 65536 in
set_option maxHeartbeats 40000000 in
theorem comes_1 {Post : Tables → Env → Array Value → State → Outcome → State → Prop} (hpost : ∀ tb e args s v u, (limb_1_1.after args s (.returned v) u = true ∧ limb_1_2.after args s (.returned v) u = true ∧ True) → FrameEnd s (.returned v) u (Jvm.fieldLocs frame_1_writes args s ++ Jvm.arrayLocs frame_1_arrays args s ++ Jvm.staticLocs frame_1_statics s) 16 192 → Post tb e args s (.returned v) u) :
    ArmFor flags0 classFile x code maxLocals ret World_1 tables_1 room_1 Calls_1 rest_1 Pre_1 Post := by
  intro l hfl _ _ p e ha hc hk s m args below hf hA hF happ hP
  obtain ⟨hcalls, hrest, hpre⟩ := hP
  obtain ⟨-, -, -, hnamed, -, -, -, hat⟩ := (Spec.applies_iff hf).mp happ
  obtain ⟨hg, hn⟩ := and_e (Cond.before_iff.mp (show (Jvm.Cond.and given_1 narrow_1).before args s = true from hpre))
  obtain ⟨g0, r0⟩ := and_e hg
  obtain ⟨a0, r1⟩ := and_e r0
  obtain ⟨w0, w1, rfl⟩ : ∃ w0 w1 : Value, args = #[w0, w1] := by
    have hs : args.size = 2 := by simpa [Cond.value, given_1] using g0
    obtain ⟨L⟩ := args
    match L, hs with
    | [w0, w1], _ => exact ⟨w0, w1, rfl⟩
  have hw := fun d (hd : d ∈ tables_1) => atoms_spec (ws := Jvm.Cond.code x code maxLocals ret :: tables_1) hat d (List.mem_cons_of_mem _ hd)
  have hfit : Fit s := fun {y c} hc i hi => by
    obtain ⟨ha, rfl⟩ := Array.getElem?_eq_some_iff.mp hc
    have q := List.all_eq_true.mp ((Array.all_eq_true_iff_forall_mem.mp hF) _ (Array.getElem_mem ha)) i (List.mem_range.mpr hi)
    simpa [Array.getElem?_eq_getElem hi] using q
  obtain ⟨i0, ei0⟩ := isL_v a0
  obtain rfl : w0 = (.long i0) := Option.some.inj ei0
  obtain ⟨i1, ei1⟩ := isL_v r1
  obtain rfl : w1 = (.long i1) := Option.some.inj ei1
  obtain ⟨n, o, h1, h2, h3, _, L, rfl, ⟨rfl, N⟩, hq⟩ := rm0 l s _ hw tables_1 i0 i1  s.heap s.heap.size (Nat.le_refl _)  p e ha hc hk s m _ below hf ((Spec.applies_iff_loose hf).mp happ).1 ⟨rfl, State.Warmed39.refl s, rfl⟩ trivial
  refine ⟨n, _, h1, h2, h3, hpost _ _ _ _ _ _ ⟨Cond.after_iff.mpr rfl, Cond.after_iff.mpr (eq_i res_at (Term.int_eval (1)) rfl), trivial⟩ ⟨hq.1, hq.2.1, (hq.2.2.sift fun y hy => Or.inr (N y hy)).mono (by decide) (by decide)⟩⟩
theorem main_1_1 : Claimed_1_1 := comes_1 fun _ _ _ _ _ _ h hF => ⟨h.1, hF⟩
theorem main_1_2 : Claimed_1_2 := comes_1 fun _ _ _ _ _ _ h hF => ⟨h.2.1, hF⟩
end Jvm.Pilot.@@N@@
namespace Jvm.Pilot.@@N@@
open Jvm Jvm.ClassFile Sem Op Lib Jvm.Free Jvm.Stand Jvm.Pilot.@@N@@.Jvm.D
/-! MADE BY PROGRAM (witnessworld.py) out of the Statement's table words and the real class files: 12 classes; the members and pool entries that the words name. The judged class is class 1, her method 2. -/
namespace start1
open Jvm.ClassFile
def u (s : String) : CpInfo := .utf8 (stringToUtf16 s)
/-- a pool by its gaps: so many unusable entries, then the entry; so many at the end -/
def gap : Nat → List CpInfo → List CpInfo
  | 0, r => r
  | n + 1, r => .unusable :: gap n r
def poolList (es : List (Nat × CpInfo)) (last : Nat) : List CpInfo := es.foldr (fun e r => gap e.1 (e.2 :: r)) (gap last [])
def pool (es : List (Nat × CpInfo)) (last : Nat) : Array CpInfo := ⟨poolList es last⟩
def fileOf (pool : Array CpInfo) (this : Nat) (attrs : Array Attribute := #[]) (ms : Array MethodInfo := #[]) (fl : Nat := 33) (sup : Nat := 0) (ifs : Array Nat := #[]) (fds : Array FieldInfo := #[]) : ClassFile where
  minorVersion := 0
  majorVersion := 65
  constantPool := pool
  accessFlags := fl
  thisClass := this
  superClass := sup
  interfaces := ifs
  fields := fds
  methods := ms
  attributes := attrs
def plain (name : String) (sup : Option ClassId) : Class where
  name := name
  kind := .ordinary
  loader := none
  accessFlags := 33
  super := sup
  interfaces := #[]
  cf := none
  fields := #[]
  methods := #[]
  instanceTypes := #[]
  staticTypes := #[]
  resolved := #[]
  callSites := []
  init := .initialized
  statics := none
  mirror := none

def pool0 : Array CpInfo := pool [(5, u "<init>"), (0, u "()V"), (1, .class_ 10), (1, u "java/lang/Object")] 113

def k0c0 : Code := { maxStack := 0, maxLocals := 1, code := object_method_1_code, exceptionTable := #[], attributes := #[] }
def k0m0 : Method := { name := "<init>", desc := "()V", sig := { parameters := [], returnType := none }, accessFlags := 1, code := some k0c0 }
/-- java/lang/Object -/
def k0 : Class := { plain "java/lang/Object" none with
  accessFlags := 33
  interfaces := #[]
  cf := some (fileOf pool0 8 #[] #[{ accessFlags := 1, nameIndex := 5, descriptorIndex := 6, attributes := #[] }] 33 0 #[] #[])
  fields := #[]
  methods := #[k0m0]
  instanceTypes := #[]
  staticTypes := #[]
  resolved := Array.replicate 124 none
  statics := none }

def pool1 : Array CpInfo := pool [(2, .class_ 4), (0, .nameAndType 5 6), (0, u "java/lang/Object"), (0, u "<init>"), (0, u "()V"), (0, .long 128), (1, .long 16384), (1, .long 2097152), (1, .long 268435456), (1, .long 34359738368), (1, .long 4398046511104), (1, .long 562949953421312), (1, .long 72057594037927936), (3, .long 9223372036854775807), (1, .class_ 28), (0, u "com/example/cari/cari/index/Encoder"), (0, .methodref 27 3), (0, .methodref 27 31), (0, .nameAndType 32 33), (0, u "number"), (0, u "(J)V"), (0, .methodref 27 35), (0, .nameAndType 36 37), (0, u "size"), (0, u "()I"), (0, .methodref 39 40), (0, .class_ 41), (0, .nameAndType 42 43), (0, u "com/example/cari/cari/index/EncoderNumberPinLaw"), (0, u "len"), (0, u "(J)I"), (3, u "law"), (0, u "(JJ)Z")] 2

def k1m0 : Method := { name := "<init>", desc := "()V", sig := { parameters := [], returnType := none }, accessFlags := 1, code := none }
def k1c1 : Code := { maxStack := 4, maxLocals := 2, code := method_2_code, exceptionTable := #[], attributes := #[] }
def k1m1 : Method := { name := "len", desc := "(J)I", sig := { parameters := [.long], returnType := some .int }, accessFlags := 10, code := some k1c1 }
def k1c2 : Code := { maxStack := 4, maxLocals := 11, code := code, exceptionTable := #[], attributes := #[] }
def k1m2 : Method := { name := "law", desc := "(JJ)Z", sig := { parameters := [.long, .long], returnType := some .boolean }, accessFlags := 9, code := some k1c2 }
/-- com/example/cari/cari/index/EncoderNumberPinLaw -/
def k1 : Class := { plain "com/example/cari/cari/index/EncoderNumberPinLaw" (some 0) with
  accessFlags := 49
  interfaces := #[]
  cf := some (fileOf pool1 39 #[] #[{ accessFlags := 1, nameIndex := 5, descriptorIndex := 6, attributes := #[] }, { accessFlags := 10, nameIndex := 42, descriptorIndex := 43, attributes := #[] }, { accessFlags := 9, nameIndex := 47, descriptorIndex := 48, attributes := #[] }] 49 2 #[] #[])
  fields := #[]
  methods := #[k1m0, k1m1, k1m2]
  instanceTypes := #[]
  staticTypes := #[]
  resolved := Array.replicate 51 none
  statics := none }

def pool2 : Array CpInfo := pool [(1, .methodref 2 3), (0, .class_ 4), (0, .nameAndType 5 6), (0, u "java/lang/Object"), (0, u "<init>"), (0, u "()V"), (0, .fieldref 8 9), (0, .class_ 10), (0, .nameAndType 11 12), (0, u "com/example/cari/cari/index/Encoder"), (0, u "bytes"), (0, u "[B"), (0, .long 128), (1, .methodref 8 16), (0, .nameAndType 17 18), (0, u "append"), (0, u "(B)V"), (14, u "number"), (0, u "(J)V"), (0, .methodref 8 36), (0, .nameAndType 37 38), (0, u "ensureRoom"), (0, u "(I)V"), (0, .fieldref 8 40), (0, .nameAndType 41 42), (0, u "size"), (0, u "I"), (12, .methodref 56 57), (0, .class_ 58), (0, .nameAndType 59 60), (0, u "java/lang/Math"), (0, u "max"), (0, u "(II)I"), (0, .methodref 62 63), (0, .class_ 64), (0, .nameAndType 65 66), (0, u "java/util/Arrays"), (0, u "copyOf"), (0, u "([BI)[B"), (5, u "()I")] 7

def k2c0 : Code := { maxStack := 2, maxLocals := 1, code := prog_43_method_1_code, exceptionTable := #[], attributes := #[] }
def k2m0 : Method := { name := "<init>", desc := "()V", sig := { parameters := [], returnType := none }, accessFlags := 0, code := some k2c0 }
def k2c1 : Code := { maxStack := 5, maxLocals := 5, code := prog_43_method_2_code, exceptionTable := #[], attributes := #[] }
def k2m1 : Method := { name := "number", desc := "(J)V", sig := { parameters := [.long], returnType := none }, accessFlags := 0, code := some k2c1 }
def k2c2 : Code := { maxStack := 1, maxLocals := 1, code := prog_43_method_4_code, exceptionTable := #[], attributes := #[] }
def k2m2 : Method := { name := "size", desc := "()I", sig := { parameters := [], returnType := some .int }, accessFlags := 0, code := some k2c2 }
def k2c3 : Code := { maxStack := 5, maxLocals := 2, code := prog_43_method_6_code, exceptionTable := #[], attributes := #[] }
def k2m3 : Method := { name := "append", desc := "(B)V", sig := { parameters := [.byte], returnType := none }, accessFlags := 2, code := some k2c3 }
def k2c4 : Code := { maxStack := 5, maxLocals := 2, code := prog_43_method_7_code, exceptionTable := #[], attributes := #[] }
def k2m4 : Method := { name := "ensureRoom", desc := "(I)V", sig := { parameters := [.int], returnType := none }, accessFlags := 2, code := some k2c4 }
/-- com/example/cari/cari/index/Encoder -/
def k2 : Class := { plain "com/example/cari/cari/index/Encoder" (some 0) with
  accessFlags := 48
  interfaces := #[]
  cf := some (fileOf pool2 8 #[] #[{ accessFlags := 0, nameIndex := 5, descriptorIndex := 6, attributes := #[] }, { accessFlags := 0, nameIndex := 33, descriptorIndex := 34, attributes := #[] }, { accessFlags := 0, nameIndex := 41, descriptorIndex := 72, attributes := #[] }, { accessFlags := 2, nameIndex := 17, descriptorIndex := 18, attributes := #[] }, { accessFlags := 2, nameIndex := 37, descriptorIndex := 38, attributes := #[] }] 48 2 #[] #[{ accessFlags := 2, nameIndex := 11, descriptorIndex := 12, attributes := #[] }, { accessFlags := 2, nameIndex := 41, descriptorIndex := 42, attributes := #[] }])
  fields := #[{ name := "bytes", type := (.array .byte), accessFlags := 2, slot := 0, constantValue := 0 }, { name := "size", type := .int, accessFlags := 2, slot := 1, constantValue := 0 }]
  methods := #[k2m0, k2m1, k2m2, k2m3, k2m4]
  instanceTypes := #[(.array .byte), .int]
  staticTypes := #[]
  resolved := Array.replicate 80 none
  statics := none }

def pool3 : Array CpInfo := pool [(1, .class_ 2), (0, u "java/lang/Math"), (1, .class_ 6), (1, u "java/lang/Object"), (0, u "<init>"), (0, u "()V"), (89, .class_ 100), (1, u "java/lang/Math$RandomNumberGeneratorHolder"), (71, u "negativeZeroFloatBits"), (0, u "J"), (2, u "negativeZeroDoubleBits"), (21, u "max"), (2, u "min"), (43, u "$assertionsDisabled"), (0, u "Z"), (88, u "(II)I"), (2, u "twoToTheDoubleScaleDown"), (0, u "D"), (4, u "twoToTheDoubleScaleUp"), (9, u "E"), (3, u "PI"), (2, u "TAU"), (2, u "DEGREES_TO_RADIANS"), (0, u "RADIANS_TO_DEGREES")] 94

def k3m0 : Method := { name := "<init>", desc := "()V", sig := { parameters := [], returnType := none }, accessFlags := 2, code := none }
def k3c1 : Code := { maxStack := 2, maxLocals := 2, code := jdk_29_method_65_code, exceptionTable := #[], attributes := #[] }
def k3m1 : Method := { name := "max", desc := "(II)I", sig := { parameters := [.int, .int], returnType := some .int }, accessFlags := 9, code := some k3c1 }
def k3c2 : Code := { maxStack := 2, maxLocals := 2, code := jdk_29_method_69_code, exceptionTable := #[], attributes := #[] }
def k3m2 : Method := { name := "min", desc := "(II)I", sig := { parameters := [.int, .int], returnType := some .int }, accessFlags := 9, code := some k3c2 }
/-- java/lang/Math -/
def k3 : Class := { plain "java/lang/Math" (some 0) with
  accessFlags := 49
  interfaces := #[]
  cf := some (fileOf pool3 1 #[.nestMembers #[98]] #[{ accessFlags := 2, nameIndex := 7, descriptorIndex := 8, attributes := #[] }, { accessFlags := 9, nameIndex := 198, descriptorIndex := 335, attributes := #[] }, { accessFlags := 9, nameIndex := 201, descriptorIndex := 335, attributes := #[] }] 49 4 #[] #[{ accessFlags := 25, nameIndex := 354, descriptorIndex := 339, attributes := #[] }, { accessFlags := 25, nameIndex := 358, descriptorIndex := 339, attributes := #[] }, { accessFlags := 25, nameIndex := 361, descriptorIndex := 339, attributes := #[] }, { accessFlags := 26, nameIndex := 364, descriptorIndex := 339, attributes := #[] }, { accessFlags := 26, nameIndex := 365, descriptorIndex := 339, attributes := #[] }, { accessFlags := 26, nameIndex := 172, descriptorIndex := 173, attributes := #[] }, { accessFlags := 26, nameIndex := 176, descriptorIndex := 173, attributes := #[] }, { accessFlags := 8, nameIndex := 344, descriptorIndex := 339, attributes := #[] }, { accessFlags := 8, nameIndex := 338, descriptorIndex := 339, attributes := #[] }, { accessFlags := 4120, nameIndex := 245, descriptorIndex := 246, attributes := #[] }])
  fields := #[{ name := "E", type := .double, accessFlags := 25, slot := 0, constantValue := 0 }, { name := "PI", type := .double, accessFlags := 25, slot := 1, constantValue := 0 }, { name := "TAU", type := .double, accessFlags := 25, slot := 2, constantValue := 0 }, { name := "DEGREES_TO_RADIANS", type := .double, accessFlags := 26, slot := 3, constantValue := 0 }, { name := "RADIANS_TO_DEGREES", type := .double, accessFlags := 26, slot := 4, constantValue := 0 }, { name := "negativeZeroFloatBits", type := .long, accessFlags := 26, slot := 5, constantValue := 0 }, { name := "negativeZeroDoubleBits", type := .long, accessFlags := 26, slot := 6, constantValue := 0 }, { name := "twoToTheDoubleScaleUp", type := .double, accessFlags := 8, slot := 7, constantValue := 0 }, { name := "twoToTheDoubleScaleDown", type := .double, accessFlags := 8, slot := 8, constantValue := 0 }, { name := "$assertionsDisabled", type := .boolean, accessFlags := 4120, slot := 9, constantValue := 0 }]
  methods := #[k3m0, k3m1, k3m2]
  instanceTypes := #[]
  staticTypes := #[.double, .double, .double, .double, .double, .long, .long, .double, .double, .boolean]
  resolved := Array.replicate 460 none
  statics := none }

def pool4 : Array CpInfo := pool [(2, .class_ 4), (1, u "java/lang/Object"), (0, u "<init>"), (0, u "()V"), (7, .class_ 16), (1, u "java/util/Arrays"), (57, .class_ 76), (1, u "java/util/Arrays$NaturalOrder"), (36, .class_ 115), (1, u "java/util/Arrays$LegacyMergeSort"), (1, u "Z"), (32, .methodref 151 152), (0, .class_ 153), (0, .nameAndType 154 155), (0, u "java/lang/System"), (0, u "arraycopy"), (0, u "(Ljava/lang/Object;ILjava/lang/Object;II)V"), (146, u "copyOf"), (1, .methodref 305 306), (0, .class_ 307), (0, .nameAndType 308 309), (0, u "java/lang/Math"), (0, u "min"), (0, u "(II)I"), (65, .class_ 376), (0, u "java/util/Arrays$ArrayList"), (68, u "$assertionsDisabled"), (269, u "MIN_ARRAY_SORT_GRAN"), (0, u "I"), (2, u "INSERTIONSORT_THRESHOLD"), (149, u "([BI)[B"), (105, .class_ 976), (0, u "java/util/Arrays$ArrayItr")] 52

def k4m0 : Method := { name := "<init>", desc := "()V", sig := { parameters := [], returnType := none }, accessFlags := 2, code := none }
def k4c1 : Code := { maxStack := 6, maxLocals := 3, code := jdk_65_method_121_code, exceptionTable := #[], attributes := #[] }
def k4m1 : Method := { name := "copyOf", desc := "([BI)[B", sig := { parameters := [(.array .byte), .int], returnType := some (.array .byte) }, accessFlags := 9, code := some k4c1 }
/-- java/util/Arrays -/
def k4 : Class := { plain "java/util/Arrays" (some 0) with
  accessFlags := 49
  interfaces := #[]
  cf := some (fileOf pool4 14 #[.nestMembers #[975, 375, 113, 74]] #[{ accessFlags := 2, nameIndex := 5, descriptorIndex := 6, attributes := #[] }, { accessFlags := 9, nameIndex := 302, descriptorIndex := 869, attributes := #[] }] 49 2 #[] #[{ accessFlags := 26, nameIndex := 715, descriptorIndex := 716, attributes := #[] }, { accessFlags := 26, nameIndex := 719, descriptorIndex := 716, attributes := #[] }, { accessFlags := 4120, nameIndex := 445, descriptorIndex := 117, attributes := #[] }])
  fields := #[{ name := "MIN_ARRAY_SORT_GRAN", type := .int, accessFlags := 26, slot := 0, constantValue := 0 }, { name := "INSERTIONSORT_THRESHOLD", type := .int, accessFlags := 26, slot := 1, constantValue := 0 }, { name := "$assertionsDisabled", type := .boolean, accessFlags := 4120, slot := 2, constantValue := 0 }]
  methods := #[k4m0, k4m1]
  instanceTypes := #[]
  staticTypes := #[.int, .int, .boolean]
  resolved := Array.replicate 1029 none
  statics := none }

def pool5 : Array CpInfo := pool [(2, .class_ 4), (1, u "java/lang/Object"), (0, u "<init>"), (0, u "()V"), (1, .class_ 10), (1, u "java/lang/System"), (0, u "allowSecurityManager"), (0, u "I"), (16, u "cons"), (0, u "Ljava/io/Console;"), (77, .class_ 110), (1, u "java/lang/System$CallersHolder"), (43, u "initialErrStream"), (0, u "Ljava/io/PrintStream;"), (19, u "security"), (0, u "Ljava/lang/SecurityManager;"), (31, .class_ 209), (0, u "java/lang/System$1"), (7, u "props"), (0, u "Ljava/util/Properties;"), (2, u "lineSeparator"), (0, u "Ljava/lang/String;"), (96, .class_ 321), (1, u "java/lang/System$LoggerFinder"), (5, .class_ 328), (0, u "java/lang/System$Logger"), (67, u "err"), (2, u "out"), (91, u "notSupportedJnuEncoding"), (15, u "in"), (17, u "initialIn"), (0, u "Ljava/io/InputStream;"), (35, u "bootLayer"), (0, u "Ljava/lang/ModuleLayer;"), (99, .class_ 664), (0, u "java/lang/System$2"), (9, u "NEVER"), (2, u "MAYBE"), (49, u "arraycopy"), (0, u "(Ljava/lang/Object;ILjava/lang/Object;II)V"), (72, .class_ 802), (0, u "java/lang/System$Logger$Level")] 31

def k5m0 : Method := { name := "<init>", desc := "()V", sig := { parameters := [], returnType := none }, accessFlags := 2, code := none }
def k5m1 : Method := { name := "arraycopy", desc := "(Ljava/lang/Object;ILjava/lang/Object;II)V", sig := { parameters := [(.object "java/lang/Object"), .int, (.object "java/lang/Object"), .int, .int], returnType := none }, accessFlags := 265, code := none }
/-- java/lang/System -/
def k5 : Class := { plain "java/lang/System" (some 0) with
  accessFlags := 49
  interfaces := #[]
  cf := some (fileOf pool5 8 #[.nestMembers #[319, 327, 801, 108, 663, 208]] #[{ accessFlags := 2, nameIndex := 5, descriptorIndex := 6, attributes := #[] }, { accessFlags := 265, nameIndex := 727, descriptorIndex := 728, attributes := #[] }] 49 2 #[] #[{ accessFlags := 25, nameIndex := 507, descriptorIndex := 526, attributes := #[] }, { accessFlags := 25, nameIndex := 399, descriptorIndex := 155, attributes := #[] }, { accessFlags := 25, nameIndex := 396, descriptorIndex := 155, attributes := #[] }, { accessFlags := 10, nameIndex := 525, descriptorIndex := 526, attributes := #[] }, { accessFlags := 26, nameIndex := 674, descriptorIndex := 12, attributes := #[] }, { accessFlags := 26, nameIndex := 677, descriptorIndex := 12, attributes := #[] }, { accessFlags := 10, nameIndex := 11, descriptorIndex := 12, attributes := #[] }, { accessFlags := 74, nameIndex := 175, descriptorIndex := 176, attributes := #[] }, { accessFlags := 10, nameIndex := 491, descriptorIndex := 222, attributes := #[] }, { accessFlags := 74, nameIndex := 29, descriptorIndex := 30, attributes := #[] }, { accessFlags := 74, nameIndex := 154, descriptorIndex := 155, attributes := #[] }, { accessFlags := 10, nameIndex := 217, descriptorIndex := 218, attributes := #[] }, { accessFlags := 10, nameIndex := 221, descriptorIndex := 222, attributes := #[] }, { accessFlags := 8, nameIndex := 562, descriptorIndex := 563, attributes := #[] }])
  fields := #[{ name := "in", type := (.object "java/io/InputStream"), accessFlags := 25, slot := 0, constantValue := 0 }, { name := "out", type := (.object "java/io/PrintStream"), accessFlags := 25, slot := 1, constantValue := 0 }, { name := "err", type := (.object "java/io/PrintStream"), accessFlags := 25, slot := 2, constantValue := 0 }, { name := "initialIn", type := (.object "java/io/InputStream"), accessFlags := 10, slot := 3, constantValue := 0 }, { name := "NEVER", type := .int, accessFlags := 26, slot := 4, constantValue := 0 }, { name := "MAYBE", type := .int, accessFlags := 26, slot := 5, constantValue := 0 }, { name := "allowSecurityManager", type := .int, accessFlags := 10, slot := 6, constantValue := 0 }, { name := "security", type := (.object "java/lang/SecurityManager"), accessFlags := 74, slot := 7, constantValue := 0 }, { name := "notSupportedJnuEncoding", type := (.object "java/lang/String"), accessFlags := 10, slot := 8, constantValue := 0 }, { name := "cons", type := (.object "java/io/Console"), accessFlags := 74, slot := 9, constantValue := 0 }, { name := "initialErrStream", type := (.object "java/io/PrintStream"), accessFlags := 74, slot := 10, constantValue := 0 }, { name := "props", type := (.object "java/util/Properties"), accessFlags := 10, slot := 11, constantValue := 0 }, { name := "lineSeparator", type := (.object "java/lang/String"), accessFlags := 10, slot := 12, constantValue := 0 }, { name := "bootLayer", type := (.object "java/lang/ModuleLayer"), accessFlags := 8, slot := 13, constantValue := 0 }]
  methods := #[k5m0, k5m1]
  instanceTypes := #[]
  staticTypes := #[(.object "java/io/InputStream"), (.object "java/io/PrintStream"), (.object "java/io/PrintStream"), (.object "java/io/InputStream"), .int, .int, .int, (.object "java/lang/SecurityManager"), (.object "java/lang/String"), (.object "java/io/Console"), (.object "java/io/PrintStream"), (.object "java/util/Properties"), (.object "java/lang/String"), (.object "java/lang/ModuleLayer")]
  resolved := Array.replicate 834 none
  statics := none }

def pool6 : Array CpInfo := pool [(1, u "java/lang/Cloneable"), (0, .class_ 1), (0, u "java/lang/Object"), (0, .class_ 3)] 3

/-- java/lang/Cloneable -/
def k6 : Class := { plain "java/lang/Cloneable" (some 0) with
  accessFlags := 1537
  interfaces := #[]
  cf := some (fileOf pool6 2 #[] #[] 1537 4 #[] #[])
  fields := #[]
  methods := #[]
  instanceTypes := #[]
  staticTypes := #[]
  resolved := Array.replicate 8 none
  statics := none }

def pool7 : Array CpInfo := pool [(1, u "java/io/Serializable"), (0, .class_ 1), (0, u "java/lang/Object"), (0, .class_ 3)] 3

/-- java/io/Serializable -/
def k7 : Class := { plain "java/io/Serializable" (some 0) with
  accessFlags := 1537
  interfaces := #[]
  cf := some (fileOf pool7 2 #[] #[] 1537 4 #[] #[])
  fields := #[]
  methods := #[]
  instanceTypes := #[]
  staticTypes := #[]
  resolved := Array.replicate 8 none
  statics := none }

/-- the primitive byte -/
def k8 : Class := { plain "byte" none with kind := .primitive 'B', accessFlags := 0x411 }
/-- [B -/
def k9 : Class := { plain "[B" (some 0) with kind := .array 8 .byte, interfaces := #[6, 7], accessFlags := 1041 }

/-- the primitive int -/
def k10 : Class := { plain "int" none with kind := .primitive 'I', accessFlags := 0x411 }
/-- [I -/
def k11 : Class := { plain "[I" (some 0) with kind := .array 10 .int, interfaces := #[6, 7], accessFlags := 1041 }

def heap : Heap := #[]
def classes : Array Class := #[k0, k1, k2, k3, k4, k5, k6, k7, k8, k9, k10, k11]
def interned : List (Array UInt16 × Addr) := []
def slotsUsed : Nat := 0
def theMethod : MethodId := ⟨1, 2⟩
def args0 : Array Value := #[.long 5, .long 300]
def aboutOver (below : List Frame) : State where
  vm := { classes := classes, interned := interned.toArray }
  heap := heap
  slotsUsed := slotsUsed
  threads := #[{ frames := .invoking theMethod args0 :: below }]
def below0 : List Frame := [.native { method := ⟨0, 0⟩, args := #[] }]
def about1 : State := aboutOver below0
def p0 : Program := .bare "" "" ""
def e0 : Env := launch0.env 0 0 0
theorem w_frames : about1.frames = Frame.invoking theMethod args0 :: below0 := rfl
set_option maxRecDepth 65536 in
theorem w_args : argsFit about1.vm theMethod args0 = true := by decide +kernel
set_option maxRecDepth 65536 in
theorem w_heap : heapFits about1 = true := by decide +kernel
set_option maxRecDepth 65536 in
theorem w_runnable : about1.curStatus? = some .runnable := by decide +kernel
set_option maxRecDepth 65536 in
theorem w_alone : about1.alone = true := by decide +kernel
set_option maxRecDepth 65536 in
theorem w_named : about1.methodNamed? x = some theMethod := by decide +kernel
set_option maxRecDepth 65536 in
theorem w_hears : about1.hears theMethod below0 = true := by decide +kernel
set_option maxRecDepth 65536 in
theorem w_ripe : about1.ripe theMethod args0 below0 = true := by decide +kernel
theorem w_running : about1.status = .running := rfl
set_option maxRecDepth 65536 in
theorem w_room : about1.hasRoom e0.platform room_1 = true :=
  launch0.hasRoom_least _ room_1 (by decide +kernel) (by decide +kernel) (by decide +kernel) (by decide +kernel) (by decide +kernel) (by decide +kernel)
theorem allAtoms_all (ts : List Jvm.Cond) (a : Array Jvm.Value) (st : Jvm.State) : (allAtoms ts).before a st = ts.all (fun c => c.before a st) := by
  induction ts with
  | nil => rfl
  | cons c t ih =>
    show (Jvm.Cond.and c (allAtoms t)).before a st = _
    rw [Jvm.Cond.before_and, ih, List.all_cons]
def words1 : List Jvm.Cond := Jvm.Cond.code x code maxLocals ret :: tables_1
/-- a 'code' word, met by the world's own term for the bytes: nothing is compared byte by byte -/
theorem code_word {y : MethodName} {bytes : ByteArray} {mx : Nat} {rt : Option FieldType} {a : Array Value} {s : State} {m : MethodId} {meth : Method} {c : Code} (h1 : s.methodNamed? y = some m) (h2 : s.vm.method? m = some meth) (h3 : meth.code = some c) (h4 : c.code = bytes)
    (h5 : (c.maxLocals == mx && c.exceptionTable.isEmpty && decide (c.maxStack ≤ mostOperands) && decide (meth.sig.returnType = rt) && !meth.locks && decide (parseMethodDescriptor y.desc = some meth.sig)) = true) : (Jvm.Cond.code y bytes mx rt).before a s = true := by
  simp only [Bool.and_eq_true, beq_iff_eq, Bool.not_eq_true', decide_eq_true_eq] at h5
  obtain ⟨⟨⟨⟨⟨g1, g2⟩, g3⟩, g4⟩, g5⟩, g6⟩ := h5
  simp [Cond.before, Cond.holds, Cond.value, h1, h2, h3, h4, g1, g2, g3, g4, g5, g6]
def isCode : Jvm.Cond → Bool
  | .code _ _ _ _ => true
  | _ => false
theorem all_split {L : List Jvm.Cond} {P : Jvm.Cond → Bool} (h1 : L.all (fun c => isCode c || P c) = true) (h2 : ∀ c ∈ L.filter isCode, P c = true) : L.all P = true := by
  refine List.all_eq_true.mpr fun c hc => ?_
  have h := List.all_eq_true.mp h1 c hc
  rcases Bool.eq_false_or_eq_true (isCode c) with hi | hi
  · exact h2 c (List.mem_filter.mpr ⟨hc, hi⟩)
  · simpa [hi] using h
set_option maxRecDepth 65536 in
theorem w_c0 : (Jvm.Cond.code x code maxLocals ret).before args0 about1 = true := code_word (m := ⟨1, 2⟩) (meth := k1m2) (c := k1c2) (by decide +kernel) rfl rfl rfl (by decide +kernel)
set_option maxRecDepth 65536 in
theorem w_c1 : (Jvm.Cond.code ({ cls := "com/example/cari/cari/index/Encoder", name := "<init>", desc := "()V" } : Jvm.MethodName) prog_43_method_1_code (1 : Nat) (Option.none : Option Jvm.ClassFile.FieldType)).before args0 about1 = true := code_word (m := ⟨2, 0⟩) (meth := k2m0) (c := k2c0) (by decide +kernel) rfl rfl rfl (by decide +kernel)
set_option maxRecDepth 65536 in
theorem w_c2 : (Jvm.Cond.code ({ cls := "java/lang/Object", name := "<init>", desc := "()V" } : Jvm.MethodName) object_method_1_code (1 : Nat) (Option.none : Option Jvm.ClassFile.FieldType)).before args0 about1 = true := code_word (m := ⟨0, 0⟩) (meth := k0m0) (c := k0c0) (by decide +kernel) rfl rfl rfl (by decide +kernel)
set_option maxRecDepth 65536 in
theorem w_c3 : (Jvm.Cond.code ({ cls := "com/example/cari/cari/index/Encoder", name := "number", desc := "(J)V" } : Jvm.MethodName) prog_43_method_2_code (5 : Nat) (Option.none : Option Jvm.ClassFile.FieldType)).before args0 about1 = true := code_word (m := ⟨2, 1⟩) (meth := k2m1) (c := k2c1) (by decide +kernel) rfl rfl rfl (by decide +kernel)
set_option maxRecDepth 65536 in
theorem w_c4 : (Jvm.Cond.code ({ cls := "com/example/cari/cari/index/Encoder", name := "append", desc := "(B)V" } : Jvm.MethodName) prog_43_method_6_code (2 : Nat) (Option.none : Option Jvm.ClassFile.FieldType)).before args0 about1 = true := code_word (m := ⟨2, 3⟩) (meth := k2m3) (c := k2c3) (by decide +kernel) rfl rfl rfl (by decide +kernel)
set_option maxRecDepth 65536 in
theorem w_c5 : (Jvm.Cond.code ({ cls := "com/example/cari/cari/index/Encoder", name := "ensureRoom", desc := "(I)V" } : Jvm.MethodName) prog_43_method_7_code (2 : Nat) (Option.none : Option Jvm.ClassFile.FieldType)).before args0 about1 = true := code_word (m := ⟨2, 4⟩) (meth := k2m4) (c := k2c4) (by decide +kernel) rfl rfl rfl (by decide +kernel)
set_option maxRecDepth 65536 in
theorem w_c6 : (Jvm.Cond.code ({ cls := "com/example/cari/cari/index/Encoder", name := "size", desc := "()I" } : Jvm.MethodName) prog_43_method_4_code (1 : Nat) (Option.some Jvm.ClassFile.FieldType.int)).before args0 about1 = true := code_word (m := ⟨2, 2⟩) (meth := k2m2) (c := k2c2) (by decide +kernel) rfl rfl rfl (by decide +kernel)
set_option maxRecDepth 65536 in
theorem w_c7 : (Jvm.Cond.code ({ cls := "com/example/cari/cari/index/EncoderNumberPinLaw", name := "len", desc := "(J)I" } : Jvm.MethodName) method_2_code (2 : Nat) (Option.some Jvm.ClassFile.FieldType.int)).before args0 about1 = true := code_word (m := ⟨1, 1⟩) (meth := k1m1) (c := k1c1) (by decide +kernel) rfl rfl rfl (by decide +kernel)
set_option maxRecDepth 65536 in
theorem w_c8 : (Jvm.Cond.code ({ cls := "java/lang/Math", name := "max", desc := "(II)I" } : Jvm.MethodName) jdk_29_method_65_code (2 : Nat) (Option.some Jvm.ClassFile.FieldType.int)).before args0 about1 = true := code_word (m := ⟨3, 1⟩) (meth := k3m1) (c := k3c1) (by decide +kernel) rfl rfl rfl (by decide +kernel)
set_option maxRecDepth 65536 in
theorem w_c9 : (Jvm.Cond.code ({ cls := "java/util/Arrays", name := "copyOf", desc := "([BI)[B" } : Jvm.MethodName) jdk_65_method_121_code (3 : Nat) (Option.some (Jvm.ClassFile.FieldType.array Jvm.ClassFile.FieldType.byte))).before args0 about1 = true := code_word (m := ⟨4, 1⟩) (meth := k4m1) (c := k4c1) (by decide +kernel) rfl rfl rfl (by decide +kernel)
set_option maxRecDepth 65536 in
theorem w_c10 : (Jvm.Cond.code ({ cls := "java/lang/Math", name := "min", desc := "(II)I" } : Jvm.MethodName) jdk_29_method_69_code (2 : Nat) (Option.some Jvm.ClassFile.FieldType.int)).before args0 about1 = true := code_word (m := ⟨3, 2⟩) (meth := k3m2) (c := k3c2) (by decide +kernel) rfl rfl rfl (by decide +kernel)
def codes1 : List Jvm.Cond := [Jvm.Cond.code x code maxLocals ret, Jvm.Cond.code ({ cls := "com/example/cari/cari/index/Encoder", name := "<init>", desc := "()V" } : Jvm.MethodName) prog_43_method_1_code (1 : Nat) (Option.none : Option Jvm.ClassFile.FieldType), Jvm.Cond.code ({ cls := "java/lang/Object", name := "<init>", desc := "()V" } : Jvm.MethodName) object_method_1_code (1 : Nat) (Option.none : Option Jvm.ClassFile.FieldType), Jvm.Cond.code ({ cls := "com/example/cari/cari/index/Encoder", name := "number", desc := "(J)V" } : Jvm.MethodName) prog_43_method_2_code (5 : Nat) (Option.none : Option Jvm.ClassFile.FieldType), Jvm.Cond.code ({ cls := "com/example/cari/cari/index/Encoder", name := "append", desc := "(B)V" } : Jvm.MethodName) prog_43_method_6_code (2 : Nat) (Option.none : Option Jvm.ClassFile.FieldType), Jvm.Cond.code ({ cls := "com/example/cari/cari/index/Encoder", name := "ensureRoom", desc := "(I)V" } : Jvm.MethodName) prog_43_method_7_code (2 : Nat) (Option.none : Option Jvm.ClassFile.FieldType), Jvm.Cond.code ({ cls := "com/example/cari/cari/index/Encoder", name := "size", desc := "()I" } : Jvm.MethodName) prog_43_method_4_code (1 : Nat) (Option.some Jvm.ClassFile.FieldType.int), Jvm.Cond.code ({ cls := "com/example/cari/cari/index/EncoderNumberPinLaw", name := "len", desc := "(J)I" } : Jvm.MethodName) method_2_code (2 : Nat) (Option.some Jvm.ClassFile.FieldType.int), Jvm.Cond.code ({ cls := "java/lang/Math", name := "max", desc := "(II)I" } : Jvm.MethodName) jdk_29_method_65_code (2 : Nat) (Option.some Jvm.ClassFile.FieldType.int), Jvm.Cond.code ({ cls := "java/util/Arrays", name := "copyOf", desc := "([BI)[B" } : Jvm.MethodName) jdk_65_method_121_code (3 : Nat) (Option.some (Jvm.ClassFile.FieldType.array Jvm.ClassFile.FieldType.byte)), Jvm.Cond.code ({ cls := "java/lang/Math", name := "min", desc := "(II)I" } : Jvm.MethodName) jdk_29_method_69_code (2 : Nat) (Option.some Jvm.ClassFile.FieldType.int)]
set_option maxRecDepth 65536 in
theorem codes_eq : words1.filter isCode = codes1 := rfl
theorem w_codes : ∀ c ∈ words1.filter isCode, c.before args0 about1 = true := by
  rw [codes_eq]
  intro c hc
  simp only [codes1, List.mem_cons, List.not_mem_nil, or_false] at hc
  rcases hc with rfl | rfl | rfl | rfl | rfl | rfl | rfl | rfl | rfl | rfl | rfl
  · exact w_c0
  · exact w_c1
  · exact w_c2
  · exact w_c3
  · exact w_c4
  · exact w_c5
  · exact w_c6
  · exact w_c7
  · exact w_c8
  · exact w_c9
  · exact w_c10
set_option maxRecDepth 65536 in
theorem w_t1 : (words1.take 24).all (fun c => isCode c || c.before args0 about1) = true := by decide +kernel
set_option maxRecDepth 65536 in
theorem w_t2 : ((words1.drop 24).take 24).all (fun c => isCode c || c.before args0 about1) = true := by decide +kernel
set_option maxRecDepth 65536 in
theorem w_t3 : ((words1.drop 24).drop 24).all (fun c => isCode c || c.before args0 about1) = true := by decide +kernel
theorem w_tables : (allAtoms (Jvm.Cond.code x code maxLocals ret :: tables_1)).before args0 about1 = true := by
  rw [allAtoms_all]
  show words1.all (fun c => c.before args0 about1) = true
  refine all_split ?_ w_codes
  rw [← List.take_append_drop 24 words1, List.all_append, w_t1, ← List.take_append_drop 24 (words1.drop 24), List.all_append, w_t2, w_t3]
  rfl
set_option maxRecDepth 65536 in
theorem w_case : (Jvm.Cond.and given_1 narrow_1).before args0 about1 = true := by decide +kernel
theorem w_applies : (headSpec (Jvm.Cond.code x code maxLocals ret :: tables_1) room_1).applies x e0.platform about1 = true :=
  (Spec.applies_iff w_frames).mpr ⟨w_running, w_runnable, w_alone, w_named, w_hears, w_ripe, w_room, w_tables⟩
theorem atStart : AtStart classFile x code maxLocals ret World_1 tables_1 room_1 Calls_1 rest_1 Pre_1 launch0 p0 e0 about1 theMethod args0 below0 :=
  ⟨lists_1, trivial, launch0.admits_env _ _ _, launch0.least_env, fairChoices_fair.cas, fairChoices_fair.clock, w_frames, w_args, w_heap, w_applies, trivial, trivial, w_case⟩
end start1
theorem witness_1 : WitnessClaimed_1 := ⟨start1.p0, start1.e0, start1.about1, start1.theMethod, start1.args0, start1.below0, start1.atStart⟩
end Jvm.Pilot.@@N@@
