import JvmDerived
import JvmDerived.Pilot.@@N@@Statement
import JvmDerived.Pilot.@@N@@Code
set_option linter.unusedVariables false
set_option linter.unusedSimpArgs false
namespace Jvm.Pilot.@@N@@
open Jvm Jvm.ClassFile Sem Op Lib Jvm.Free Jvm.Stand Jvm.LawKit Jvm.RoadKit Bundle Jvm.Pilot.@@N@@.Jvm.D
/-! the walk goes on from A and ends as P says -/
def OGo (tb : Tables) (e : Env) (below : List Frame) (P : State → Outcome → Prop) (A : State) : Prop := ∃ U o, Steps tb e below A U ∧ U.status = .running ∧ Ended U below o ∧ P U o
def OPost (s : State) (Q : Option Value → Heap → List Loc → Prop) (k n : Nat) (U : State) (o : Outcome) : Prop := ∃ v L, o = .returned v ∧ Q v U.heap L ∧ FrameEnd s o U L k n
theorem OGo.st {tb : Tables} {e : Env} {below : List Frame} {P : State → Outcome → Prop} {A B : State} (st : ∀ t, Steps tb e below B t → Steps tb e below A t) (h : OGo tb e below P B) : OGo tb e below P A := by
  obtain ⟨U, o, h1, h2⟩ := h; exact ⟨U, o, st _ h1, h2⟩
theorem OGo.tr {tb : Tables} {e : Env} {below : List Frame} {P : State → Outcome → Prop} {A B : State} (st : Steps tb e below A B) (h : OGo tb e below P B) : OGo tb e below P A := by
  obtain ⟨U, o, h1, h2⟩ := h; exact ⟨U, o, st.trans h1, h2⟩
theorem OGo.enter {tb : Tables} {e : Env} {below : List Frame} {P : State → Outcome → Prop} {T : State} {g g' : JFrame} (q : g = g') (h : OGo tb e below P (T.setTop g')) : OGo tb e below P (T.setTop g) := q ▸ h
section Own
variable {p : Program} {l : Launch} {e : Env} {R : Room} {s : State} {m : MethodId} {args : Array Value} {below : List Frame} {meth : Method} {c : Code} {T : State} {locs : List Loc} {cells slots k n : Nat} {Q : Option Value → Heap → List Loc → Prop}
theorem OGo.fin (X : Stand p l e R s m args below meth c T locs cells slots) {v : Option Value} (hv : meth.sig.returnType = none → v = none) (hlk : meth.locks = false) {g : JFrame}
    (hst : ∀ fs, (∀ (f : JFrame) (acts : List Action), f.method = m → f.locked = none → f.entered = [] → (doReturn e (T.setTop f) acts v).1 = T.setFrames fs) → Steps p.tables e below (T.setTop g) (T.setFrames fs)) (hq : Q v T.heap locs) (hk : cells ≤ k) (hn : slots ≤ n) : OGo p.tables e below (OPost s Q k n) (T.setTop g) := by
  obtain ⟨fs, hr, hrun, hended, hW, hsame⟩ := X.leave hv hlk
  exact ⟨_, _, hst fs hr, hrun, hended, _, _, rfl, hq, ⟨_, rfl⟩, hW, hsame.mono hk hn⟩
theorem own_wide (X : Stand p l e R s m args below meth c T locs cells slots) {k n : Nat} (hk : cells ≤ k) (hn : slots ≤ n) : Stand p l e R s m args below meth c T locs k n := { X with same := X.same.mono hk hn }
end Own
abbrev OMet (l : Launch) (Z : State) (y : MethodName) (code : ByteArray) (ml : Nat) (ret : Option FieldType) (ws : List Jvm.Cond) (rm : Room) (as : Array Value) (h0 : Heap) (Q : Option Value → Heap → List Loc → Prop) : Prop :=
  MetFree l y (head1 (Jvm.Cond.code y code ml ret :: ws) rm) (fun a U => a = as ∧ Z.Warmed39 U.vm ∧ U.heap = h0) (fun _ _ _ _ _ => True) (fun _ U o U' => ∃ v L, o = .returned v ∧ Q v U'.heap L ∧ FrameEnd U o U' L rm.cells rm.slots)
def Arf (Z : State) (h : Heap) (a : Addr) (k : ClassId) (ty : FieldType) (n : Int32) (f : Nat → Value) : Prop := ∃ c : Cell, Arr Z h a c ty ∧ c.cls = k ∧ c.slots.size = n.toNatClampNeg ∧ ¬ n < 0 ∧ (∀ i, i < c.slots.size → c.slots[i]? = some (f i)) ∧ ∀ i, i < c.slots.size → fits ty (f i) = true
def own_upd (f : Nat → Value) (j : Nat) (v : Value) : Nat → Value := fun i => if i = j then v else f i
section OwnArr
variable {p : Program} {l : Launch} {e : Env} {R : Room} {s : State} {m : MethodId} {args : Array Value} {below : List Frame} {meth : Method} {c : Code} {T : State} {locs : List Loc} {cells slots : Nat} {Z : State} {h h' : Heap} {a b : Addr} {k : ClassId} {ty : FieldType} {n j : Int32} {f f' : Nat → Value} {sl : Nat} {v : Value} {ws : List Addr}
theorem Arf.lt (F : Arf Z h a k ty n f) : a < h.size := by obtain ⟨c, A, _⟩ := F; exact A.lt
theorem Arf.ext (F : Arf Z h a k ty n f) (E : Ext h h') : Arf Z h' a k ty n f := by obtain ⟨c, A, r⟩ := F; exact ⟨c, A.ext E, r⟩
theorem Arf.other (F : Arf Z h b k ty n f) (W : Wr h h' a sl v) (q : b ≠ a) : Arf Z h' b k ty n f := by obtain ⟨c, A, r⟩ := F; exact ⟨c, A.other W q, r⟩
theorem Arf.keep (F : Arf Z h a k ty n f) (K : Keep h h' ws) (q : a ∉ ws) : Arf Z h' a k ty n f := by obtain ⟨c, A, r⟩ := F; exact ⟨c, ⟨K.2.1 a c A.1 q, A.2⟩, r⟩
theorem Arf.pos (F : Arf Z h a k ty n f) : ¬ n < 0 := by obtain ⟨c, A, h1, h2, h3, -⟩ := F; exact h3
theorem Arf.congr (F : Arf Z h a k ty n f) (q : ∀ i, i < n.toNatClampNeg → f i = f' i) : Arf Z h a k ty n f' := by
  obtain ⟨c, A, h1, h2, h3, H, G⟩ := F
  exact ⟨c, A, h1, h2, h3, fun i hi => by rw [H i hi, q i (h2 ▸ hi)], fun i hi => by rw [← q i (h2 ▸ hi)]; exact G i hi⟩
theorem own_new (A : Arr Z h a (newA k ty n) ty) (q : ¬ n < 0) : Arf Z h a k ty n (fun _ => defaultValue ty) := by
  obtain ⟨c, A', h1, h2, h3, H, G⟩ := Arv.new A q
  exact ⟨c, A', h1, h2, h3, fun i hi => by have := H i hi; simpa using this, fun i hi => by have := G i hi; simpa using this⟩
theorem own_set (F : Arf Z h a k ty n f) (hv : fits ty v = true) {jj : Nat} (W : Wr h h' a jj v) : Arf Z h' a k ty n (own_upd f jj v) := by
  obtain ⟨c, A, h1, h2, h3, H, G⟩ := F
  have hj : jj < c.slots.size := by obtain ⟨c', w1, -, w3, -⟩ := W; cases w1.symm.trans A.1; exact w3
  refine ⟨c.setSlot jj v, A.same W, h1, by simpa [Cell.setSlot] using h2, h3, fun i hi => ?_, fun i hi => ?_⟩
  · have hi' : i < c.slots.size := by simpa [Cell.setSlot] using hi
    by_cases q : i = jj
    · subst q; simp [Cell.setSlot, own_upd, hi']
    · have := H i hi'; simp only [own_upd, if_neg q]; rw [← this]; exact Array.getElem?_setIfInBounds_ne (Ne.symm q)
  · have hi' : i < c.slots.size := by simpa [Cell.setSlot] using hi
    by_cases q : i = jj
    · simp only [own_upd, if_pos q]; exact hv
    · simp only [own_upd, if_neg q]; exact G i hi'
theorem own_alen (X : Stand p l e R s m args below meth c T locs cells slots) (hx : p.tables.exec = Jvm.exec) (hZ : Z.Warmed39 s.vm) (eT : T.heap = h) (F : Arf Z h a k ty n f) {g : JFrame} (hg : g.method = m) {rest : List Value} (hs : g.stack = .ref a :: rest) (hd : decode c.code g.pc = .ok (.arraylength, 1)) :
    ∀ t, Steps p.tables e below (T.setTop { g with pc := g.pc + 1, stack := .int n :: rest }) t → Steps p.tables e below (T.setTop g) t := by
  obtain ⟨cl, A, h1, S, N, H, G⟩ := F
  intro t k_
  refine X.arraylength hx (by rw [eT]; exact A.1) (State.isArrayOf_alike hZ.alike A.2.1) hg hs hd t ?_
  rw [len_of S N]; exact k_
theorem own_at (S : cells = n.toNatClampNeg) (hin : ¬ j < 0 ∧ j < n) : j.toNatClampNeg < cells := by
  have h1 := nat_of hin.1
  have h2 : ¬ n < 0 := fun q => by have := hin.1; have := hin.2; rw [Int32.lt_iff_toInt_lt] at *; omega
  have h3 := nat_of h2
  have h4 := hin.2; rw [Int32.lt_iff_toInt_lt] at h4; omega
theorem own_ldI (X : Stand p l e R s m args below meth c T locs cells slots) (hx : p.tables.exec = Jvm.exec) (hZ : Z.Warmed39 s.vm) (eT : T.heap = h) (F : Arf Z h a k .int n f) {j v : Int32} (hin : ¬ j < 0 ∧ j < n) (hv : f j.toNatClampNeg = .int v) {g : JFrame} (hg : g.method = m) {rest : List Value} (hs : g.stack = .int j :: .ref a :: rest) (hd : decode c.code g.pc = .ok (.iaload, 1)) :
    ∀ t, Steps p.tables e below (T.setTop { g with pc := g.pc + 1, stack := .int v :: rest }) t → Steps p.tables e below (T.setTop g) t := by
  obtain ⟨cl, A, h1, S, N, H, G⟩ := F
  exact X.iaload hx (by rw [eT]; exact A.1) (State.isArrayOf_alike hZ.alike A.2.1) A.2.2 (inb_of S hin) (by rw [H _ (own_at S hin), hv]) hg hs hd
theorem own_ldJ (X : Stand p l e R s m args below meth c T locs cells slots) (hx : p.tables.exec = Jvm.exec) (hZ : Z.Warmed39 s.vm) (eT : T.heap = h) (F : Arf Z h a k .long n f) {j : Int32} {v : Int64} (hin : ¬ j < 0 ∧ j < n) (hv : f j.toNatClampNeg = .long v) {g : JFrame} (hg : g.method = m) {rest : List Value} (hs : g.stack = .int j :: .ref a :: rest) (hd : decode c.code g.pc = .ok (.laload, 1)) :
    ∀ t, Steps p.tables e below (T.setTop { g with pc := g.pc + 1, stack := .long v :: rest }) t → Steps p.tables e below (T.setTop g) t := by
  obtain ⟨cl, A, h1, S, N, H, G⟩ := F
  exact X.laload hx (by rw [eT]; exact A.1) (State.isArrayOf_alike hZ.alike A.2.1) A.2.2 (inb_of S hin) (by rw [H _ (own_at S hin), hv]) hg hs hd
theorem own_ldB (X : Stand p l e R s m args below meth c T locs cells slots) (hx : p.tables.exec = Jvm.exec) (hZ : Z.Warmed39 s.vm) (eT : T.heap = h) (F : Arf Z h a k .byte n f) {j v : Int32} (hin : ¬ j < 0 ∧ j < n) (hv : f j.toNatClampNeg = .int v) {g : JFrame} (hg : g.method = m) {rest : List Value} (hs : g.stack = .int j :: .ref a :: rest) (hd : decode c.code g.pc = .ok (.baload, 1)) :
    ∀ t, Steps p.tables e below (T.setTop { g with pc := g.pc + 1, stack := .int v :: rest }) t → Steps p.tables e below (T.setTop g) t := by
  obtain ⟨cl, A, h1, S, N, H, G⟩ := F
  exact X.baloadBytes hx (by rw [eT]; exact A.1) (State.isArrayOf_alike hZ.alike A.2.1) A.2.2 (inb_of S hin) (by rw [H _ (own_at S hin), hv]) hg hs hd
theorem own_ldR (X : Stand p l e R s m args below meth c T locs cells slots) (hx : p.tables.exec = Jvm.exec) (hZ : Z.Warmed39 s.vm) (eT : T.heap = h) {C : String} (F : Arf Z h a k (.object C) n f) {j : Int32} {v : Value} (hin : ¬ j < 0 ∧ j < n) (hv : f j.toNatClampNeg = v) {g : JFrame} (hg : g.method = m) {rest : List Value} (hs : g.stack = .int j :: .ref a :: rest) (hd : decode c.code g.pc = .ok (.aaload, 1)) :
    ∀ t, Steps p.tables e below (T.setTop { g with pc := g.pc + 1, stack := v :: rest }) t → Steps p.tables e below (T.setTop g) t := by
  obtain ⟨cl, A, h1, S, N, H, G⟩ := F
  exact X.aaload hx (by rw [eT]; exact A.1) (State.isArrayOf_alike hZ.alike A.2.1) rfl A.2.2 (inb_of S hin) (by rw [H _ (own_at S hin), hv]) hg hs hd
theorem own_stI (X : Stand p l e R s m args below meth c T locs cells slots) (hx : p.tables.exec = Jvm.exec) (hZ : Z.Warmed39 s.vm) (eT : T.heap = h) (F : Arf Z h a k .int n f) {j x : Int32} (hin : ¬ j < 0 ∧ j < n) {g : JFrame} (hg : g.method = m) {rest : List Value} (hs : g.stack = .int x :: .int j :: .ref a :: rest) (hd : decode c.code g.pc = .ok (.iastore, 1)) :
    ∃ T' h', Stand p l e R s m args below meth c T' (locs ++ [⟨a, j.toNatClampNeg⟩]) cells slots ∧ T'.heap = h' ∧ Wr h h' a j.toNatClampNeg (.int x) ∧ Arf Z h' a k .int n (own_upd f j.toNatClampNeg (.int x)) ∧ ∀ target, Steps p.tables e below (T'.setTop { g with pc := g.pc + 1, stack := rest }) target → Steps p.tables e below (T.setTop g) target := by
  obtain ⟨cl, A, h1, S, N, H, G⟩ := id F
  obtain ⟨T', h', X', e', W, st⟩ := stI X hx hZ eT A (inb_of S hin) hg hs hd
  exact ⟨T', h', X', e', W, own_set F rfl W, st⟩
theorem own_stJ (X : Stand p l e R s m args below meth c T locs cells slots) (hx : p.tables.exec = Jvm.exec) (hZ : Z.Warmed39 s.vm) (eT : T.heap = h) (F : Arf Z h a k .long n f) {j : Int32} {x : Int64} (hin : ¬ j < 0 ∧ j < n) {g : JFrame} (hg : g.method = m) {rest : List Value} (hs : g.stack = .long x :: .int j :: .ref a :: rest) (hd : decode c.code g.pc = .ok (.lastore, 1)) :
    ∃ T' h', Stand p l e R s m args below meth c T' (locs ++ [⟨a, j.toNatClampNeg⟩]) cells slots ∧ T'.heap = h' ∧ Wr h h' a j.toNatClampNeg (.long x) ∧ Arf Z h' a k .long n (own_upd f j.toNatClampNeg (.long x)) ∧ ∀ target, Steps p.tables e below (T'.setTop { g with pc := g.pc + 1, stack := rest }) target → Steps p.tables e below (T.setTop g) target := by
  obtain ⟨cl, A, h1, S, N, H, G⟩ := id F
  obtain ⟨T', h', X', e', W, st⟩ := stJ X hx hZ eT A (inb_of S hin) hg hs hd
  exact ⟨T', h', X', e', W, own_set F rfl W, st⟩
theorem own_stB (X : Stand p l e R s m args below meth c T locs cells slots) (hx : p.tables.exec = Jvm.exec) (hZ : Z.Warmed39 s.vm) (eT : T.heap = h) (F : Arf Z h a k .byte n f) {j x : Int32} (hin : ¬ j < 0 ∧ j < n) {g : JFrame} (hg : g.method = m) {rest : List Value} (hs : g.stack = .int x :: .int j :: .ref a :: rest) (hd : decode c.code g.pc = .ok (.bastore, 1)) :
    ∃ T' h', Stand p l e R s m args below meth c T' (locs ++ [⟨a, j.toNatClampNeg⟩]) cells slots ∧ T'.heap = h' ∧ Wr h h' a j.toNatClampNeg (.int (nar .byte x)) ∧ Arf Z h' a k .byte n (own_upd f j.toNatClampNeg (.int (nar .byte x))) ∧ ∀ target, Steps p.tables e below (T'.setTop { g with pc := g.pc + 1, stack := rest }) target → Steps p.tables e below (T.setTop g) target := by
  obtain ⟨cl, A, h1, S, N, H, G⟩ := id F
  obtain ⟨T', h', X', e', W, st⟩ := stB X hx hZ eT A (inb_of S hin) hg hs hd
  exact ⟨T', h', X', e', W, own_set F (fits_nar_byte _) W, st⟩
theorem own_stR (X : Stand p l e R s m args below meth c T locs cells slots) (hx : p.tables.exec = Jvm.exec) (hZ : Z.Warmed39 s.vm) (eT : T.heap = h) {C : String} (F : Arf Z h a k (.object C) n f) {j : Int32} {x : Value} (hin : ¬ j < 0 ∧ j < n) (hr : x.isRef = true) (hS : Sto Z h a x) {g : JFrame} (hg : g.method = m) {rest : List Value} (hs : g.stack = x :: .int j :: .ref a :: rest) (hd : decode c.code g.pc = .ok (.aastore, 1)) :
    ∃ T' h', Stand p l e R s m args below meth c T' (locs ++ [⟨a, j.toNatClampNeg⟩]) cells slots ∧ T'.heap = h' ∧ Wr h h' a j.toNatClampNeg x ∧ Arf Z h' a k (.object C) n (own_upd f j.toNatClampNeg x) ∧ ∀ target, Steps p.tables e below (T'.setTop { g with pc := g.pc + 1, stack := rest }) target → Steps p.tables e below (T.setTop g) target := by
  obtain ⟨cl, A, h1, S, N, H, G⟩ := id F
  obtain ⟨T', h', X', e', W, st⟩ := stR X hx hZ eT A (inb_of S hin) rfl hS hg hs hd
  exact ⟨T', h', X', e', W, own_set F (by rcases ref_cases hr with rfl | ⟨y, rfl⟩ <;> rfl) W, st⟩
theorem own_getD (f : Nat → Value) (n i : Nat) (d : Value) (h : i < n) : ((List.range n).map f).getD i d = f i := by
  simp [List.getD_eq_getElem?_getD, h]
theorem Arf.arv (F : Arf Z h a k ty n f) (d : Value) : Arv Z h a k ty n ((List.range n.toNatClampNeg).map f) d := by
  obtain ⟨c, A, h1, S, N, H, G⟩ := F
  exact ⟨c, A, h1, S, N, fun i hi => by rw [own_getD f _ i d (S ▸ hi)]; exact H i hi, fun i hi => by rw [own_getD f _ i d (S ▸ hi)]; exact G i hi⟩
theorem own_ofArv {vs : List Value} {d : Value} (F : Arv Z h a k ty n vs d) : Arf Z h a k ty n (fun i => vs.getD i d) := F
/-- System.arraycopy of a part of a primitive array into another one -/
theorem own_copy (X : Stand p l e R s m args below meth c T locs cells slots) (hx : p.tables.exec = Jvm.exec) (hZ : Z.Warmed39 s.vm) {a0 : Array Value} {own : String} {index : Nat} (hown : s.vm.findClass own = some m.cls)
    (w1 : (Jvm.Cond.methodLink own index Jvm.Stand.acN).before a0 Z = true) (w2 : (Jvm.Cond.native Jvm.Stand.acN).before a0 Z = true) (w3 : (Jvm.Cond.static Jvm.Stand.acN).before a0 Z = true) (w4 : (Jvm.Cond.initialized "java/lang/System").before a0 Z = true) (eT : T.heap = h)
    {k' : ClassId} {z' sp dp nn : Int32} (A : Arf Z h a k ty n f) (B : Arf Z h b k' ty z' f') (hty : refKind ty = false)
    (h1 : ¬ sp < 0) (h2 : ¬ dp < 0) (h3 : ¬ nn < 0) (h4 : sp.toNatClampNeg + nn.toNatClampNeg ≤ n.toNatClampNeg) (h5 : dp.toNatClampNeg + nn.toNatClampNeg ≤ z'.toNatClampNeg) {n0 : Nat} (N : Fr n0 locs) (ge : n0 ≤ b)
    {g : JFrame} (hg : g.method = m) (hsize : g.locals.size = c.maxLocals) {rest : List Value} (hs : g.stack = .int nn :: .int dp :: .ref b :: .int sp :: .ref a :: rest) (hd : decode c.code g.pc = .ok (.invokestatic index, 3))
    (hf : 1 ≤ R.frames) {W : Nat} (hW : 2 * g.monitorRoom + (rest.map fun v => v.category).sum ≤ W) (hlo : W + (nativeFrameWords "java/lang/System" "arraycopy" 5 + 11) ≤ R.locals) :
    ∃ T' h' L, Stand p l e R s m args below meth c T' L cells slots ∧ T'.heap = h' ∧ Fr n0 L ∧ Keep h h' [b] ∧ Arf Z h' b k' ty z' (fun i => if dp.toNatClampNeg ≤ i ∧ i < dp.toNatClampNeg + nn.toNatClampNeg then f (sp.toNatClampNeg + (i - dp.toNatClampNeg)) else f' i) ∧
      ∀ target, Steps p.tables e below (T'.setTop { g with pc := g.pc + 3, stack := rest }) target → Steps p.tables e below (T.setTop g) target := by
  obtain ⟨T', h', L, X', e', N', K', V', st⟩ := cpA X hx hZ hown w1 w2 w3 w4 eT (A.arv .null) (B.arv .null) (Or.inl ⟨rfl, hty⟩) h1 h2 h3 h4 h5 rfl (by simpa using h5) N ge hg hsize hs hd hf hW hlo
  refine ⟨T', h', L, X', e', N', K', (own_ofArv V').congr fun i hi => ?_, st⟩
  have hb : dp.toNatClampNeg ≤ z'.toNatClampNeg := by omega
  simp only [List.getD_eq_getElem?_getD]
  by_cases q1 : i < dp.toNatClampNeg
  · rw [if_neg (by omega), List.append_assoc, List.getElem?_append_left (by simp; omega), List.getElem?_take_of_lt q1]; simp [hi]
  · by_cases q2 : i < dp.toNatClampNeg + nn.toNatClampNeg
    · rw [if_pos ⟨by omega, q2⟩, List.append_assoc, List.getElem?_append_right (by simp; omega), List.getElem?_append_left (by simp; omega)]
      have e1 : min dp.toNatClampNeg z'.toNatClampNeg = dp.toNatClampNeg := Nat.min_eq_left hb
      simp only [List.length_take, List.length_map, List.length_range, e1]
      have e2 : i - dp.toNatClampNeg < nn.toNatClampNeg := by omega
      have e3 : sp.toNatClampNeg + (i - dp.toNatClampNeg) < n.toNatClampNeg := by omega
      simp [e2, e3]
    · rw [if_neg (by omega), List.getElem?_append_right (by simp; omega)]
      have e1 : min dp.toNatClampNeg z'.toNatClampNeg = dp.toNatClampNeg := Nat.min_eq_left hb
      simp only [List.length_append, List.length_take, List.length_map, List.length_range, e1, List.getElem?_drop]
      have e2 : dp.toNatClampNeg + nn.toNatClampNeg + (i - (dp.toNatClampNeg + nn.toNatClampNeg)) = i := by omega
      rw [e2]; simp [hi]
end OwnArr
section OwnArrC
variable {p : Program} {l : Launch} {e : Env} {R : Room} {s : State} {m : MethodId} {args : Array Value} {below : List Frame} {meth : Method} {c : Code} {T : State} {locs : List Loc} {cells slots : Nat} {Z : State} {h h' : Heap} {a b : Addr} {k : ClassId} {n j : Int32} {f : Nat → Value}
theorem own_ldC (X : Stand p l e R s m args below meth c T locs cells slots) (hx : p.tables.exec = Jvm.exec) (hZ : Z.Warmed39 s.vm) (eT : T.heap = h) (F : Arf Z h a k .char n f) {j v : Int32} (hin : ¬ j < 0 ∧ j < n) (hv : f j.toNatClampNeg = .int v) {g : JFrame} (hg : g.method = m) {rest : List Value} (hs : g.stack = .int j :: .ref a :: rest) (hd : decode c.code g.pc = .ok (.caload, 1)) :
    ∀ t, Steps p.tables e below (T.setTop { g with pc := g.pc + 1, stack := .int v :: rest }) t → Steps p.tables e below (T.setTop g) t := by
  obtain ⟨cl, A, h1, S, N, H, G⟩ := F
  exact X.caload hx (by rw [eT]; exact A.1) (State.isArrayOf_alike hZ.alike A.2.1) A.2.2 (inb_of S hin) (by rw [H _ (own_at S hin), hv]) hg hs hd
theorem own_stC (X : Stand p l e R s m args below meth c T locs cells slots) (hx : p.tables.exec = Jvm.exec) (hZ : Z.Warmed39 s.vm) (eT : T.heap = h) (F : Arf Z h a k .char n f) {j x : Int32} (hin : ¬ j < 0 ∧ j < n) {g : JFrame} (hg : g.method = m) {rest : List Value} (hs : g.stack = .int x :: .int j :: .ref a :: rest) (hd : decode c.code g.pc = .ok (.castore, 1)) :
    ∃ T' h', Stand p l e R s m args below meth c T' (locs ++ [⟨a, j.toNatClampNeg⟩]) cells slots ∧ T'.heap = h' ∧ Wr h h' a j.toNatClampNeg (.int (nar .char x)) ∧ Arf Z h' a k .char n (own_upd f j.toNatClampNeg (.int (nar .char x))) ∧ ∀ target, Steps p.tables e below (T'.setTop { g with pc := g.pc + 1, stack := rest }) target → Steps p.tables e below (T.setTop g) target := by
  obtain ⟨cl, A, h1, S, N, H, G⟩ := id F
  obtain ⟨T', h', X', e', W, st⟩ := stC X hx hZ eT A (inb_of S hin) hg hs hd
  exact ⟨T', h', X', e', W, own_set F (fits_nar_char _) W, st⟩
end OwnArrC
theorem own_chr (y : Int32) (h : y.toBitVec.toNat ≤ 255) : nar .char y = y := by
  show y.toUInt32.toUInt16.toUInt32.toInt32 = y
  apply Int32.toBitVec_inj.1
  show BitVec.setWidth 32 (BitVec.setWidth 16 y.toBitVec) = y.toBitVec
  apply BitVec.eq_of_toNat_eq
  simp only [BitVec.toNat_setWidth]
  have := y.toBitVec.isLt
  omega
theorem own_c255 (p : Int32) : ¬ (255 : Int32) < nar .char (p &&& (255 : Int32)).toUInt32.toUInt16.toUInt32.toInt32 := by
  have l : (p &&& (255 : Int32)).toBitVec.toNat ≤ 255 := by rw [Int32.toBitVec_and, BitVec.toNat_and]; exact Nat.and_le_right
  have e1 : (p &&& (255 : Int32)).toUInt32.toUInt16.toUInt32.toInt32 = p &&& (255 : Int32) := own_chr _ l
  rw [e1, own_chr _ l]
  have e : (p &&& (255 : Int32)).toInt = (p &&& (255 : Int32)).toBitVec.toNat := by show (p &&& (255 : Int32)).toBitVec.toInt = _; exact BitVec.toInt_eq_toNat_of_lt (by omega)
  rw [Int32.lt_iff_toInt_lt, e]
  show ¬ (255 : Int) < _
  omega
theorem own_sta_keep {Z : State} {h h' : Heap} {C n d : String} {v : Value} (F : Sta Z h C n d v) (K : Keep h h' []) : Sta Z h' C n d v := by
  obtain ⟨cf, i, k, f, st, cell, h1, h2, h3, h4, h5, r⟩ := F; exact ⟨cf, i, k, f, st, cell, h1, h2, h3, h4, K.2.1 _ _ h5 (fun q => nomatch q), r⟩
def OPostS (Z : State) (EL : List (String × Nat)) (s : State) (Q : Option Value → Heap → List Loc → Prop) (k n : Nat) (U : State) (o : Outcome) : Prop := ∃ v L, o = .returned v ∧ Q v U.heap L ∧ CHr Z EL s.vm s.heap U.vm U.heap ∧ ReturnedEndW s o U L k n
abbrev OSt (Z : State) (EL : List (String × Nat)) (s : State) (m : MethodId) (own : String) (vm : Vm) (h0 h : Heap) : Prop :=
  Z.Warmed39 (s.setVm vm).vm ∧ (s.setVm vm).vm.findClass own = some m.cls ∧ (∃ k, s.Since vm k ∧ k ≤ h.size) ∧ CHr Z EL s.vm h0 vm h
abbrev OMetS (l : Launch) (Z : State) (EL : List (String × Nat)) (fs : List Addr) (y : MethodName) (code : ByteArray) (ml : Nat) (ret : Option FieldType) (ws : List Jvm.Cond) (rm : Room) (as : Array Value) (h0 : Heap) (Q : Option Value → Heap → List Loc → Prop) : Prop :=
  MetFree l y (head1 (Jvm.Cond.code y code ml ret :: ws) rm) (fun a U => a = as ∧ Z.Warmed39 U.vm ∧ U.heap = h0 ∧ CHv Z EL U.vm h0 ∧ ∀ x ∈ fs, Safe Z EL U.vm h0 x) (fun _ _ _ _ _ => True) (fun _ U o U' => ∃ v L, o = .returned v ∧ Q v U'.heap L ∧ CHr Z EL U.vm U.heap U'.vm U'.heap ∧ ReturnedEndW U o U' L rm.cells rm.slots)
section OwnS
variable {p : Program} {l : Launch} {e : Env} {R : Room} {s : State} {m : MethodId} {args : Array Value} {below : List Frame} {meth : Method} {c : Code} {T : State} {locs : List Loc} {cells slots k n : Nat} {Q : Option Value → Heap → List Loc → Prop} {Z : State} {a0 : Array Value} {EL : List (String × Nat)} {h0 h h' : Heap} {vm vm' : Vm} {own : String} {ws : List Addr}
theorem OSt.z (O : OSt Z EL s m own vm h0 h) : Z.Warmed39 (s.setVm vm).vm := O.1
theorem OSt.o (O : OSt Z EL s m own vm h0 h) : (s.setVm vm).vm.findClass own = some m.cls := O.2.1
theorem OSt.q (O : OSt Z EL s m own vm h0 h) : ∃ k, s.Since vm k ∧ k ≤ h.size := O.2.2.1
theorem OSt.r (O : OSt Z EL s m own vm h0 h) : CHr Z EL s.vm h0 vm h := O.2.2.2
theorem OSt.ext (O : OSt Z EL s m own vm h0 h) (E : Ext h h') : OSt Z EL s m own vm h0 h' := ⟨O.z, O.o, by obtain ⟨k, a, b⟩ := O.q; exact ⟨k, a, Nat.le_trans b E.1⟩, O.r.trans (CHr.ext E O.r.1)⟩
theorem OSt.wr (O : OSt Z EL s m own vm h0 h) {a : Addr} {sl : Nat} {v : Value} (W : Wr h h' a sl v) (S : Safe Z EL vm h a) : OSt Z EL s m own vm h0 h' := ⟨O.z, O.o, by obtain ⟨k, a, b⟩ := O.q; exact ⟨k, a, Nat.le_trans b (CHr.wr W S O.r.1).2.1⟩, O.r.trans (CHr.wr W S O.r.1)⟩
theorem OSt.keep (O : OSt Z EL s m own vm h0 h) (K : Keep h h' ws) (hs : ∀ x ∈ ws, Safe Z EL vm h x) : OSt Z EL s m own vm h0 h' := ⟨O.z, O.o, by obtain ⟨k, a, b⟩ := O.q; exact ⟨k, a, Nat.le_trans b K.1⟩, O.r.trans (CHr.keep K hs O.r.1)⟩
theorem OSt.call (O : OSt Z EL s m own vm h0 h) {U : State} (S : (s.setVm vm).Since U.vm U.heap.size) (eT : T.heap = h) (g : T.heap.size ≤ U.heap.size) (C : CHr Z EL vm h U.vm U.heap) : OSt Z EL s m own U.vm h0 U.heap := by
  obtain ⟨k, a, b⟩ := O.q
  subst eT
  exact ⟨State.Warmed39.trans O.z S.1, (S.1.alike.findClass _ _).trans O.o, ⟨_, a.trans S (Nat.le_trans b g), Nat.le_refl _⟩, O.r.trans C⟩
theorem own_ldcS (X : Stand p l e R (s.setVm vm) m args below meth c T locs cells slots) (hx : p.tables.exec = Jvm.exec) (O : OSt Z EL s m own vm h0 h) {text : String} {index : Nat} (w : (Jvm.Cond.stringLink own index text).before a0 Z = true) (wS : ∀ a ∈ Bundle.stringAtoms, a.before a0 Z = true) (eT : T.heap = h) (hEL : EW Z a0 EL) (hmem : (own, index) ∈ EL)
    {vs : List Value} {z : Int32} (ht : (∀ c ∈ text.toList, c.toNat < 256) ∧ text.toList.map (fun c => Value.int (Jvm.Lit.byteI c.toNat.toUInt16)) = vs) (hz : ¬ z < 0) (hl : z.toNatClampNeg = vs.length)
    {g : JFrame} (hg : g.method = m) (hd : decode c.code g.pc = .ok (.ldc index, 2)) {n : Nat} (hn : 4 * text.toList.length ≤ n) (hbig : n ≤ 536870912) (hc : cells + 2 ≤ R.cells) (hl' : slots + (n + 4) ≤ R.slots) :
    ∃ (a : Addr) (T' : State) (h' : Heap) (b : Addr) (k : ClassId), Stand p l e R (s.setVm T'.vm) m args below meth c T' locs (cells + 2) (slots + (n + 4)) ∧ T'.heap = h' ∧ Ext h h' ∧ OSt Z EL s m own T'.vm h0 h' ∧ (∀ x, x < h.size → Safe Z EL vm h x → Safe Z EL T'.vm h' x) ∧
      Exa Z h' a "java/lang/String" ∧ Fld Z h' a "java/lang/String" "coder" "B" (.int 0) ∧ Fld Z h' a "java/lang/String" "value" "[B" (.ref b) ∧ Arv Z h' b k .byte z vs (.int 0) ∧ (∀ x, Safe Z EL T'.vm h' x → x ≠ a ∧ x ≠ b) ∧
      ∀ target, Steps p.tables e below (T'.setTop { g with pc := g.pc + 2, stack := .ref a :: g.stack }) target → Steps p.tables e below (T.setTop g) target := by
  obtain ⟨k0, hS, hk⟩ := O.q
  obtain ⟨a, T', h', k1, b, k, X', e', E, hS', hk', hZ', ho', F1, F2, F3, F4, -, -, hC, -, hne, st⟩ := ldcCH X hx O.z O.o w wS eT hS hk hEL hmem O.r.1 ht hz hl hg hd hn hbig hc hl'
  exact ⟨a, T', h', b, k, X', e', E, ⟨hZ', ho', ⟨k1, hS', hk'⟩, O.r.trans hC⟩, fun x hxl S => hC.safe hxl S, F1, F2, F3, F4, hne, st⟩
theorem own_ldcO (X : Stand p l e R (s.setVm vm) m args below meth c T locs cells slots) (hx : p.tables.exec = Jvm.exec) (O : OSt Z EL s m own vm h0 h) {text : String} {index : Nat} (w : (Jvm.Cond.stringLink own index text).before a0 Z = true) (wS : ∀ a ∈ Bundle.stringAtoms, a.before a0 Z = true) (eT : T.heap = h) (hEL : EW Z a0 EL)
    {g : JFrame} (hg : g.method = m) (hd : decode c.code g.pc = .ok (.ldc index, 2)) {n : Nat} (hn : 4 * text.toList.length ≤ n) (hbig : n ≤ 536870912) (hc : cells + 2 ≤ R.cells) (hl' : slots + (n + 4) ≤ R.slots) :
    ∃ (a : Addr) (T' : State) (h' : Heap), Stand p l e R (s.setVm T'.vm) m args below meth c T' locs (cells + 2) (slots + (n + 4)) ∧ T'.heap = h' ∧ Ext h h' ∧ OSt Z EL s m own T'.vm h0 h' ∧ (∀ x, x < h.size → Safe Z EL vm h x → Safe Z EL T'.vm h' x) ∧
      ∀ target, Steps p.tables e below (T'.setTop { g with pc := g.pc + 2, stack := .ref a :: g.stack }) target → Steps p.tables e below (T.setTop g) target := by
  obtain ⟨k0, hS, hk⟩ := O.q
  obtain ⟨a, T', h', k1, X', e', E, hS', hk', hZ', ho', hC, -, st⟩ := ldcOH X hx O.z O.o w wS eT hS hk hEL O.r.1 hg hd hn hbig hc hl'
  exact ⟨a, T', h', X', e', E, ⟨hZ', ho', ⟨k1, hS', hk'⟩, O.r.trans hC⟩, fun x hxl S => hC.safe hxl S, st⟩
theorem OGo.finS (X : Stand p l e R (s.setVm vm) m args below meth c T locs cells slots) (eT : T.heap = h) (O : OSt Z EL s m own vm h0 h) (hEL : EW Z a0 EL) (hs0 : s.heap = h0) {v : Option Value} (hv : meth.sig.returnType = none → v = none) (hlk : meth.locks = false) {g : JFrame}
    (hst : ∀ fs, (∀ (f : JFrame) (acts : List Action), f.method = m → f.locked = none → f.entered = [] → (doReturn e (T.setTop f) acts v).1 = T.setFrames fs) → Steps p.tables e below (T.setTop g) (T.setFrames fs)) (hq : Q v T.heap locs) (hk : cells ≤ k) (hn : slots ≤ n) : OGo p.tables e below (OPostS Z EL s Q k n) (T.setTop g) := by
  obtain ⟨k0, hS, hk0⟩ := O.q
  obtain ⟨fs, hr, hrun, hended, ⟨v', e1⟩, hW, hI, hsame⟩ := X.leaveW hS (by rw [eT]; exact hk0) hv hlk
  subst eT hs0
  have hC : CHr Z EL vm T.heap T.vm T.heap := CHv.at X O.z hEL O.r.1
  exact ⟨_, _, hst fs hr, hrun, hended, _, _, rfl, hq, O.r.trans hC, ⟨_, rfl⟩, hW, hI, hsame.mono hk hn⟩
theorem own_backSH {y : MethodName} {bytes : ByteArray} {maxL : Nat} {ret : Option FieldType} {rm : Room} {len W : Nat} {as' : Array Value} {Q : Option Value → Heap → List Loc → Prop} {fs : List Addr}
    (hM : MetFree l y (head1 [Jvm.Cond.code y bytes maxL ret] rm) (fun a U => a = as' ∧ Z.Warmed39 U.vm ∧ U.heap = h ∧ CHv Z EL U.vm h ∧ ∀ x ∈ fs, Safe Z EL U.vm h x) (fun _ _ _ _ _ => True) (fun _ U o U' => ∃ v L, o = .returned v ∧ Q v U'.heap L ∧ CHr Z EL U.vm U.heap U'.vm U'.heap ∧ ReturnedEndW U o U' L rm.cells rm.slots))
    (hZ : Z.Warmed39 vm) (wc : (Jvm.Cond.code y bytes maxL ret).before a0 Z = true) (wz : (Jvm.Cond.initialized y.cls).before a0 Z = true) (hf : rm.frames + 1 ≤ R.frames) (hl : W + (maxL + 11) + rm.locals ≤ R.locals) (hEL : EW Z a0 EL) (H : CHv Z EL vm h) (hsf : ∀ x ∈ fs, x < h.size ∧ Safe Z EL vm h x) :
    BackS l R p e below (s.setVm vm) args y len W (fun A a => a = as' ∧ A.U.heap = h ∧ A.cells + rm.cells ≤ R.cells ∧ A.slots + rm.slots ≤ R.slots)
      (fun A _ v B => ∃ L, Q v B.U.heap L ∧ B.locs = A.locs ++ L ∧ B.cells = A.cells + rm.cells ∧ B.slots = A.slots + rm.slots ∧ CHr Z EL vm h B.U.vm B.U.heap) :=
  BackS.of_freeW (bytes := bytes) (maxL := maxL) (ret := ret) (E := fun _ first o t L k n => k = rm.cells ∧ n = rm.slots ∧ (∃ v, o = .returned v ∧ Q v t.heap L) ∧ CHr Z EL first.vm first.heap t.vm t.heap) hM hf hl
    (fun m meth c A a Y hp => have hU : Z.Warmed39 A.U.vm := wtrans (s := s.setVm vm) hZ Y.warmed
      ⟨by show (Jvm.Cond.and _ .tt).before a A.U = true; rw [Cond.before_and, mv hU wc]; rfl, mv hU wc, mv hU wz, hp.2.2.1, hp.2.2.2⟩)
    (fun m meth c A a g mk Y hp => ⟨hp.1, wtrans (s := s.setVm vm) hZ Y.warmed, hp.2.1, (CHv.at Y hZ hEL H).1, fun x hx => (CHv.at Y hZ hEL H).safe (hsf x hx).1 (hsf x hx).2⟩) (fun _ _ _ _ _ _ _ _ _ => trivial)
    (fun _ _ _ _ ⟨v, L, h1, h2, h3, h4⟩ => ⟨L, _, _, h4, rfl, rfl, ⟨v, h1, h2⟩, h3⟩)
    (fun m meth c A a g mk v t L k n Y hp _ _ ⟨e1, e2, ⟨v', e3, e4⟩, e5⟩ => by
      cases e3; subst e1 e2
      refine ⟨L, e4, rfl, rfl, rfl, (CHv.at Y hZ hEL H).trans ?_⟩
      rw [← hp.2.1]; exact e5)
theorem own_since (s : State) (k : Nat) : s.Since s.vm k := (State.WarmedH.refl s).since k
end OwnS
def own_EL : List (String × Nat) := [("java/lang/String", 7)]
theorem own_EW {Z : State} {a0 : Array Value} (hw : ∀ d ∈ tables_1, d.before a0 Z = true) : EW Z a0 own_EL := (EW.cons (hw _ (List.mem_of_getElem? (i := 77) rfl)) (by decide) EW.nil)
theorem own_wS {Z : State} {a0 : Array Value} (hw : ∀ d ∈ tables_1, d.before a0 Z = true) : ∀ a ∈ Bundle.stringAtoms, a.before a0 Z = true := by
  intro a ha
  simp only [Bundle.stringAtoms, List.mem_cons, List.not_mem_nil, or_false] at ha
  rcases ha with rfl | rfl | rfl | rfl | rfl | rfl | rfl
  · exact (hw _ (List.mem_of_getElem? (i := 6) rfl))
  · exact (hw _ (List.mem_of_getElem? (i := 5) rfl))
  · exact (hw _ (List.mem_of_getElem? (i := 23) rfl))
  · exact (hw _ (List.mem_of_getElem? (i := 33) rfl))
  · exact (hw _ (List.mem_of_getElem? (i := 31) rfl))
  · exact (hw _ (List.mem_of_getElem? (i := 78) rfl))
  · exact (hw _ (List.mem_of_getElem? (i := 79) rfl))
theorem own_narrow {C : String} {v : Value} (h : v.isRef = true) : narrow (.object C) v = v := by rcases ref_cases h with rfl | ⟨y, rfl⟩ <;> rfl
theorem own_fits {C : String} {v : Value} (h : v.isRef = true) : fits (.object C) v = true := by rcases ref_cases h with rfl | ⟨y, rfl⟩ <;> rfl
def own_B (b0 b1 : Int32) : Nat → Value := fun i => if i = 0 then .int b0 else .int b1
theorem own_d_jdk_52_method_21_code_0 : decode jdk_52_method_21_code 0 = .ok (.iconst 0, 1) := by decide +kernel
theorem own_d_jdk_52_method_21_code_1 : decode jdk_52_method_21_code 1 = .ok (.istore 5, 2) := by decide +kernel
theorem own_d_jdk_52_method_21_code_3 : decode jdk_52_method_21_code 3 = .ok (.iload 5, 2) := by decide +kernel
theorem own_d_jdk_52_method_21_code_5 : decode jdk_52_method_21_code 5 = .ok (.iload 4, 2) := by decide +kernel
theorem own_d_jdk_52_method_21_code_7 : decode jdk_52_method_21_code 7 = .ok (.if_icmp .ge 37, 3) := by decide +kernel
theorem own_d_jdk_52_method_21_code_10 : decode jdk_52_method_21_code 10 = .ok (.aload_n 0, 1) := by decide +kernel
theorem own_d_jdk_52_method_21_code_11 : decode jdk_52_method_21_code 11 = .ok (.iload_n 1, 1) := by decide +kernel
theorem own_d_jdk_52_method_21_code_12 : decode jdk_52_method_21_code 12 = .ok (.caload, 1) := by decide +kernel
theorem own_d_jdk_52_method_21_code_13 : decode jdk_52_method_21_code 13 = .ok (.istore 6, 2) := by decide +kernel
theorem own_d_jdk_52_method_21_code_15 : decode jdk_52_method_21_code 15 = .ok (.iload 6, 2) := by decide +kernel
theorem own_d_jdk_52_method_21_code_17 : decode jdk_52_method_21_code 17 = .ok (.sipush 255, 3) := by decide +kernel
theorem own_d_jdk_52_method_21_code_20 : decode jdk_52_method_21_code 20 = .ok (.if_icmp .le 6, 3) := by decide +kernel
theorem own_d_jdk_52_method_21_code_26 : decode jdk_52_method_21_code 26 = .ok (.aload_n 2, 1) := by decide +kernel
theorem own_d_jdk_52_method_21_code_27 : decode jdk_52_method_21_code 27 = .ok (.iload_n 3, 1) := by decide +kernel
theorem own_d_jdk_52_method_21_code_28 : decode jdk_52_method_21_code 28 = .ok (.iload 6, 2) := by decide +kernel
theorem own_d_jdk_52_method_21_code_30 : decode jdk_52_method_21_code 30 = .ok (.i2b, 1) := by decide +kernel
theorem own_d_jdk_52_method_21_code_31 : decode jdk_52_method_21_code 31 = .ok (.bastore, 1) := by decide +kernel
theorem own_d_jdk_52_method_21_code_32 : decode jdk_52_method_21_code 32 = .ok (.iinc 1 1, 3) := by decide +kernel
theorem own_d_jdk_52_method_21_code_35 : decode jdk_52_method_21_code 35 = .ok (.iinc 3 1, 3) := by decide +kernel
theorem own_d_jdk_52_method_21_code_38 : decode jdk_52_method_21_code 38 = .ok (.iinc 5 1, 3) := by decide +kernel
theorem own_d_jdk_52_method_21_code_41 : decode jdk_52_method_21_code 41 = .ok (.goto (-38), 3) := by decide +kernel
theorem own_d_jdk_52_method_21_code_44 : decode jdk_52_method_21_code 44 = .ok (.iload 4, 2) := by decide +kernel
theorem own_d_jdk_52_method_21_code_46 : decode jdk_52_method_21_code 46 = .ok (.ireturn, 1) := by decide +kernel
theorem own_pn0 : plainName "java/lang/StringUTF16" = true := by first | (simp [plainName, overriddenIn]; done) | decide +kernel
theorem own_ef_rm1 (m : MethodId) (x0 : Addr) (x1 : Int32) (x2 : Addr) (x3 : Int32) (x4 : Int32) : entryFrame m #[(.ref x0), (.int x1), (.ref x2), (.int x3), (.int x4)] 7 = mkF m 0 #[.val (.ref x0), .val (.int x1), .val (.ref x2), .val (.int x3), .val (.int x4), .unset, .unset] [] := by first | (simp [entryFrame, mkF, argsToLocals, Value.category]; done) | rfl
def own_Q_rm1 (Z : State) (ac ab : Addr) (kc kb : ClassId) (x0 x1 : Int32) (h0 : Heap) (n0 : Nat) (v : Option Value) (h : Heap) (L : List Loc) : Prop := v = some (.int 2) ∧ Fr n0 L ∧ Keep h0 h [ab] ∧ ∃ f, Arf Z h ab kb .byte 2 f
set_option maxRecDepth 65536 in
set_option maxHeartbeats 40000000 in
theorem rm1 (l : Launch) (Z : State) (a0 : Array Value) (hw : ∀ d ∈ tables_1, d.before a0 Z = true) (ws : List Jvm.Cond) (ac ab : Addr) (kc kb : ClassId) (x0 x1 : Int32) (h0 : Heap) (n0 : Nat) (Z0 : n0 ≤ h0.size) (A_ac : Arf Z h0 ac kc .char 2 (own_B x0 x1)) (A_ab : Arf Z h0 ab kb .byte 2 (fun _ => (.int (0 : Int32)))) (g_ab : n0 ≤ ab) (ne_ac_ab : ac ≠ ab) (h0_ : ¬ (255 : Int32) < x0) (h1_ : ¬ (255 : Int32) < x1) :
    OMet l Z (⟨"java/lang/StringUTF16", "compress", "([CI[BII)I"⟩ : MethodName) jdk_52_method_21_code 7 (some .int) ws ({ frames := 0, cells := 0, slots := 0, locals := 0 } : Room) #[(.ref ac), (.int (0 : Int32)), (.ref ab), (.int (0 : Int32)), (.int (2 : Int32))] h0 (own_Q_rm1 Z ac ab kc kb x0 x1 h0 n0) := by
  refine MetFree.of_bodySF (plainFor_of_name own_pn0) hisR ?_
  intro p e s m args below meth c s₁ Bd hml0 hP hK
  obtain ⟨rfl, hZ, hh⟩ := hP
  have hx := Bd.exec
  have hby := Bd.bytes
  have hml : c.maxLocals = 7 := hml0
  have hown : s.vm.findClass "java/lang/StringUTF16" = some m.cls := findClass_of_methodNamed Bd.named
  have hnm := (name_of_methodNamed Bd.named Bd.method).1
  have hlk : meth.locks = false := Bd.notSynchronized
  have X0 : Stand p l e ({ frames := 0, cells := 0, slots := 0, locals := 0 } : Room) s m #[(.ref ac), (.int (0 : Int32)), (.ref ab), (.int (0 : Int32)), (.int (2 : Int32))] below meth c s₁ [] 0 0 := Stand.of_body Bd
  have e0 : s₁.heap = h0 := by rw [← hh, Bd.state]; rfl
  have N0 := Fr.nil n0
  refine OGo.enter (P := OPost s (own_Q_rm1 Z ac ab kc kb x0 x1 h0 n0) 0 0) (own_ef_rm1 m ac (0 : Int32) ab (0 : Int32) (2 : Int32)) ?_
  show OGo p.tables e below _ (s₁.setTop (mkF m 0 #[.val (.ref ac), .val (.int (0 : Int32)), .val (.ref ab), .val (.int (0 : Int32)), .val (.int (2 : Int32)), .unset, .unset] []))
  refine OGo.st (fun _ k_ => XS.iconst X0.here hx rfl (hb hby own_d_jdk_52_method_21_code_0) k_) ?_
  show OGo p.tables e below _ (s₁.setTop (mkF m 1 #[.val (.ref ac), .val (.int (0 : Int32)), .val (.ref ab), .val (.int (0 : Int32)), .val (.int (2 : Int32)), .unset, .unset] [(.int (0 : Int32))]))
  refine OGo.st (fun _ k_ => XS.istore X0.here hx rfl (hb hby own_d_jdk_52_method_21_code_1) rfl (l' := #[.val (.ref ac), .val (.int (0 : Int32)), .val (.ref ab), .val (.int (0 : Int32)), .val (.int (2 : Int32)), .val (.int (0 : Int32)), .unset]) rfl k_) ?_
  show OGo p.tables e below _ (s₁.setTop (mkF m 3 #[.val (.ref ac), .val (.int (0 : Int32)), .val (.ref ab), .val (.int (0 : Int32)), .val (.int (2 : Int32)), .val (.int (0 : Int32)), .unset] []))
  refine OGo.st (fun _ k_ => XS.iload X0.here hx rfl (hb hby own_d_jdk_52_method_21_code_3) rfl k_) ?_
  show OGo p.tables e below _ (s₁.setTop (mkF m 5 #[.val (.ref ac), .val (.int (0 : Int32)), .val (.ref ab), .val (.int (0 : Int32)), .val (.int (2 : Int32)), .val (.int (0 : Int32)), .unset] [(.int (0 : Int32))]))
  refine OGo.st (fun _ k_ => XS.iload X0.here hx rfl (hb hby own_d_jdk_52_method_21_code_5) rfl k_) ?_
  show OGo p.tables e below _ (s₁.setTop (mkF m 7 #[.val (.ref ac), .val (.int (0 : Int32)), .val (.ref ab), .val (.int (0 : Int32)), .val (.int (2 : Int32)), .val (.int (0 : Int32)), .unset] [(.int (2 : Int32)), (.int (0 : Int32))]))
  refine OGo.st (fun _ k_ => XS.icmpNo X0.here hx rfl (hb hby own_d_jdk_52_method_21_code_7) rfl (XT.ii_ge_f (by decide)) k_) ?_
  show OGo p.tables e below _ (s₁.setTop (mkF m 10 #[.val (.ref ac), .val (.int (0 : Int32)), .val (.ref ab), .val (.int (0 : Int32)), .val (.int (2 : Int32)), .val (.int (0 : Int32)), .unset] []))
  refine OGo.st (fun _ k_ => XS.aloadN X0.here hx rfl (hb hby own_d_jdk_52_method_21_code_10) rfl rfl k_) ?_
  show OGo p.tables e below _ (s₁.setTop (mkF m 11 #[.val (.ref ac), .val (.int (0 : Int32)), .val (.ref ab), .val (.int (0 : Int32)), .val (.int (2 : Int32)), .val (.int (0 : Int32)), .unset] [(.ref ac)]))
  refine OGo.st (fun _ k_ => XS.iloadN X0.here hx rfl (hb hby own_d_jdk_52_method_21_code_11) rfl k_) ?_
  show OGo p.tables e below _ (s₁.setTop (mkF m 12 #[.val (.ref ac), .val (.int (0 : Int32)), .val (.ref ab), .val (.int (0 : Int32)), .val (.int (2 : Int32)), .val (.int (0 : Int32)), .unset] [(.int (0 : Int32)), (.ref ac)]))
  have qz1 := own_ldC X0 hx hZ e0 A_ac (j := (0 : Int32)) (v := x0) (by decide) rfl (g := (mkF m 12 #[.val (.ref ac), .val (.int (0 : Int32)), .val (.ref ab), .val (.int (0 : Int32)), .val (.int (2 : Int32)), .val (.int (0 : Int32)), .unset] [(.int (0 : Int32)), (.ref ac)])) rfl rfl (hb hby own_d_jdk_52_method_21_code_12)
  refine OGo.st qz1 ?_
  show OGo p.tables e below _ (s₁.setTop (mkF m 13 #[.val (.ref ac), .val (.int (0 : Int32)), .val (.ref ab), .val (.int (0 : Int32)), .val (.int (2 : Int32)), .val (.int (0 : Int32)), .unset] [(.int x0)]))
  refine OGo.st (fun _ k_ => XS.istore X0.here hx rfl (hb hby own_d_jdk_52_method_21_code_13) rfl (l' := #[.val (.ref ac), .val (.int (0 : Int32)), .val (.ref ab), .val (.int (0 : Int32)), .val (.int (2 : Int32)), .val (.int (0 : Int32)), .val (.int x0)]) rfl k_) ?_
  show OGo p.tables e below _ (s₁.setTop (mkF m 15 #[.val (.ref ac), .val (.int (0 : Int32)), .val (.ref ab), .val (.int (0 : Int32)), .val (.int (2 : Int32)), .val (.int (0 : Int32)), .val (.int x0)] []))
  refine OGo.st (fun _ k_ => XS.iload X0.here hx rfl (hb hby own_d_jdk_52_method_21_code_15) rfl k_) ?_
  show OGo p.tables e below _ (s₁.setTop (mkF m 17 #[.val (.ref ac), .val (.int (0 : Int32)), .val (.ref ab), .val (.int (0 : Int32)), .val (.int (2 : Int32)), .val (.int (0 : Int32)), .val (.int x0)] [(.int x0)]))
  refine OGo.st (fun _ k_ => XS.sipush X0.here hx rfl (hb hby own_d_jdk_52_method_21_code_17) k_) ?_
  show OGo p.tables e below _ (s₁.setTop (mkF m 20 #[.val (.ref ac), .val (.int (0 : Int32)), .val (.ref ab), .val (.int (0 : Int32)), .val (.int (2 : Int32)), .val (.int (0 : Int32)), .val (.int x0)] [(.int (255 : Int32)), (.int x0)]))
  refine OGo.st (fun _ k_ => XS.icmpYes X0.here hx rfl (pc0 := 20) (pc' := 26) rfl (hb hby own_d_jdk_52_method_21_code_20) rfl (XT.ii_le_t h0_) (by decide) (by decide) k_) ?_
  show OGo p.tables e below _ (s₁.setTop (mkF m 26 #[.val (.ref ac), .val (.int (0 : Int32)), .val (.ref ab), .val (.int (0 : Int32)), .val (.int (2 : Int32)), .val (.int (0 : Int32)), .val (.int x0)] []))
  refine OGo.st (fun _ k_ => XS.aloadN X0.here hx rfl (hb hby own_d_jdk_52_method_21_code_26) rfl rfl k_) ?_
  show OGo p.tables e below _ (s₁.setTop (mkF m 27 #[.val (.ref ac), .val (.int (0 : Int32)), .val (.ref ab), .val (.int (0 : Int32)), .val (.int (2 : Int32)), .val (.int (0 : Int32)), .val (.int x0)] [(.ref ab)]))
  refine OGo.st (fun _ k_ => XS.iloadN X0.here hx rfl (hb hby own_d_jdk_52_method_21_code_27) rfl k_) ?_
  show OGo p.tables e below _ (s₁.setTop (mkF m 28 #[.val (.ref ac), .val (.int (0 : Int32)), .val (.ref ab), .val (.int (0 : Int32)), .val (.int (2 : Int32)), .val (.int (0 : Int32)), .val (.int x0)] [(.int (0 : Int32)), (.ref ab)]))
  refine OGo.st (fun _ k_ => XS.iload X0.here hx rfl (hb hby own_d_jdk_52_method_21_code_28) rfl k_) ?_
  show OGo p.tables e below _ (s₁.setTop (mkF m 30 #[.val (.ref ac), .val (.int (0 : Int32)), .val (.ref ab), .val (.int (0 : Int32)), .val (.int (2 : Int32)), .val (.int (0 : Int32)), .val (.int x0)] [(.int x0), (.int (0 : Int32)), (.ref ab)]))
  refine OGo.st (fun _ k_ => XS.i2b X0.here hx rfl (hb hby own_d_jdk_52_method_21_code_30) rfl k_) ?_
  show OGo p.tables e below _ (s₁.setTop (mkF m 31 #[.val (.ref ac), .val (.int (0 : Int32)), .val (.ref ab), .val (.int (0 : Int32)), .val (.int (2 : Int32)), .val (.int (0 : Int32)), .val (.int x0)] [(.int x0.toInt8.toInt32), (.int (0 : Int32)), (.ref ab)]))
  obtain ⟨T2, hz2, X2, ez2, W2, V2, st2⟩ := own_stB X0 hx hZ e0 A_ab (j := (0 : Int32)) (by decide)  (g := (mkF m 31 #[.val (.ref ac), .val (.int (0 : Int32)), .val (.ref ab), .val (.int (0 : Int32)), .val (.int (2 : Int32)), .val (.int (0 : Int32)), .val (.int x0)] [(.int x0.toInt8.toInt32), (.int (0 : Int32)), (.ref ab)])) rfl rfl (hb hby own_d_jdk_52_method_21_code_31)
  have Af_3 := A_ac.other W2 ne_ac_ab
  have N2 := Fr.snoc X2 N0 g_ab
  have K_4 : Keep h0 hz2 [ab] := (Keep.refl h0 [ab]).wr W2 (Or.inl (List.mem_of_getElem? (i := 0) rfl))
  refine OGo.st st2 ?_
  show OGo p.tables e below _ (T2.setTop (mkF m 32 #[.val (.ref ac), .val (.int (0 : Int32)), .val (.ref ab), .val (.int (0 : Int32)), .val (.int (2 : Int32)), .val (.int (0 : Int32)), .val (.int x0)] []))
  refine OGo.st (fun _ k_ => XS.iinc X2.here hx rfl (hb hby own_d_jdk_52_method_21_code_32) rfl (l' := #[.val (.ref ac), .val (.int (1 : Int32)), .val (.ref ab), .val (.int (0 : Int32)), .val (.int (2 : Int32)), .val (.int (0 : Int32)), .val (.int x0)]) rfl k_) ?_
  show OGo p.tables e below _ (T2.setTop (mkF m 35 #[.val (.ref ac), .val (.int (1 : Int32)), .val (.ref ab), .val (.int (0 : Int32)), .val (.int (2 : Int32)), .val (.int (0 : Int32)), .val (.int x0)] []))
  refine OGo.st (fun _ k_ => XS.iinc X2.here hx rfl (hb hby own_d_jdk_52_method_21_code_35) rfl (l' := #[.val (.ref ac), .val (.int (1 : Int32)), .val (.ref ab), .val (.int (1 : Int32)), .val (.int (2 : Int32)), .val (.int (0 : Int32)), .val (.int x0)]) rfl k_) ?_
  show OGo p.tables e below _ (T2.setTop (mkF m 38 #[.val (.ref ac), .val (.int (1 : Int32)), .val (.ref ab), .val (.int (1 : Int32)), .val (.int (2 : Int32)), .val (.int (0 : Int32)), .val (.int x0)] []))
  refine OGo.st (fun _ k_ => XS.iinc X2.here hx rfl (hb hby own_d_jdk_52_method_21_code_38) rfl (l' := #[.val (.ref ac), .val (.int (1 : Int32)), .val (.ref ab), .val (.int (1 : Int32)), .val (.int (2 : Int32)), .val (.int (1 : Int32)), .val (.int x0)]) rfl k_) ?_
  show OGo p.tables e below _ (T2.setTop (mkF m 41 #[.val (.ref ac), .val (.int (1 : Int32)), .val (.ref ab), .val (.int (1 : Int32)), .val (.int (2 : Int32)), .val (.int (1 : Int32)), .val (.int x0)] []))
  refine OGo.st (fun _ k_ => XS.goto X2.here hx rfl (pc0 := 41) (pc' := 3) rfl (hb hby own_d_jdk_52_method_21_code_41) (by decide) (by decide) k_) ?_
  show OGo p.tables e below _ (T2.setTop (mkF m 3 #[.val (.ref ac), .val (.int (1 : Int32)), .val (.ref ab), .val (.int (1 : Int32)), .val (.int (2 : Int32)), .val (.int (1 : Int32)), .val (.int x0)] []))
  refine OGo.st (fun _ k_ => XS.iload X2.here hx rfl (hb hby own_d_jdk_52_method_21_code_3) rfl k_) ?_
  show OGo p.tables e below _ (T2.setTop (mkF m 5 #[.val (.ref ac), .val (.int (1 : Int32)), .val (.ref ab), .val (.int (1 : Int32)), .val (.int (2 : Int32)), .val (.int (1 : Int32)), .val (.int x0)] [(.int (1 : Int32))]))
  refine OGo.st (fun _ k_ => XS.iload X2.here hx rfl (hb hby own_d_jdk_52_method_21_code_5) rfl k_) ?_
  show OGo p.tables e below _ (T2.setTop (mkF m 7 #[.val (.ref ac), .val (.int (1 : Int32)), .val (.ref ab), .val (.int (1 : Int32)), .val (.int (2 : Int32)), .val (.int (1 : Int32)), .val (.int x0)] [(.int (2 : Int32)), (.int (1 : Int32))]))
  refine OGo.st (fun _ k_ => XS.icmpNo X2.here hx rfl (hb hby own_d_jdk_52_method_21_code_7) rfl (XT.ii_ge_f (by decide)) k_) ?_
  show OGo p.tables e below _ (T2.setTop (mkF m 10 #[.val (.ref ac), .val (.int (1 : Int32)), .val (.ref ab), .val (.int (1 : Int32)), .val (.int (2 : Int32)), .val (.int (1 : Int32)), .val (.int x0)] []))
  refine OGo.st (fun _ k_ => XS.aloadN X2.here hx rfl (hb hby own_d_jdk_52_method_21_code_10) rfl rfl k_) ?_
  show OGo p.tables e below _ (T2.setTop (mkF m 11 #[.val (.ref ac), .val (.int (1 : Int32)), .val (.ref ab), .val (.int (1 : Int32)), .val (.int (2 : Int32)), .val (.int (1 : Int32)), .val (.int x0)] [(.ref ac)]))
  refine OGo.st (fun _ k_ => XS.iloadN X2.here hx rfl (hb hby own_d_jdk_52_method_21_code_11) rfl k_) ?_
  show OGo p.tables e below _ (T2.setTop (mkF m 12 #[.val (.ref ac), .val (.int (1 : Int32)), .val (.ref ab), .val (.int (1 : Int32)), .val (.int (2 : Int32)), .val (.int (1 : Int32)), .val (.int x0)] [(.int (1 : Int32)), (.ref ac)]))
  have qz5 := own_ldC X2 hx hZ ez2 Af_3 (j := (1 : Int32)) (v := x1) (by decide) rfl (g := (mkF m 12 #[.val (.ref ac), .val (.int (1 : Int32)), .val (.ref ab), .val (.int (1 : Int32)), .val (.int (2 : Int32)), .val (.int (1 : Int32)), .val (.int x0)] [(.int (1 : Int32)), (.ref ac)])) rfl rfl (hb hby own_d_jdk_52_method_21_code_12)
  refine OGo.st qz5 ?_
  show OGo p.tables e below _ (T2.setTop (mkF m 13 #[.val (.ref ac), .val (.int (1 : Int32)), .val (.ref ab), .val (.int (1 : Int32)), .val (.int (2 : Int32)), .val (.int (1 : Int32)), .val (.int x0)] [(.int x1)]))
  refine OGo.st (fun _ k_ => XS.istore X2.here hx rfl (hb hby own_d_jdk_52_method_21_code_13) rfl (l' := #[.val (.ref ac), .val (.int (1 : Int32)), .val (.ref ab), .val (.int (1 : Int32)), .val (.int (2 : Int32)), .val (.int (1 : Int32)), .val (.int x1)]) rfl k_) ?_
  show OGo p.tables e below _ (T2.setTop (mkF m 15 #[.val (.ref ac), .val (.int (1 : Int32)), .val (.ref ab), .val (.int (1 : Int32)), .val (.int (2 : Int32)), .val (.int (1 : Int32)), .val (.int x1)] []))
  refine OGo.st (fun _ k_ => XS.iload X2.here hx rfl (hb hby own_d_jdk_52_method_21_code_15) rfl k_) ?_
  show OGo p.tables e below _ (T2.setTop (mkF m 17 #[.val (.ref ac), .val (.int (1 : Int32)), .val (.ref ab), .val (.int (1 : Int32)), .val (.int (2 : Int32)), .val (.int (1 : Int32)), .val (.int x1)] [(.int x1)]))
  refine OGo.st (fun _ k_ => XS.sipush X2.here hx rfl (hb hby own_d_jdk_52_method_21_code_17) k_) ?_
  show OGo p.tables e below _ (T2.setTop (mkF m 20 #[.val (.ref ac), .val (.int (1 : Int32)), .val (.ref ab), .val (.int (1 : Int32)), .val (.int (2 : Int32)), .val (.int (1 : Int32)), .val (.int x1)] [(.int (255 : Int32)), (.int x1)]))
  refine OGo.st (fun _ k_ => XS.icmpYes X2.here hx rfl (pc0 := 20) (pc' := 26) rfl (hb hby own_d_jdk_52_method_21_code_20) rfl (XT.ii_le_t h1_) (by decide) (by decide) k_) ?_
  show OGo p.tables e below _ (T2.setTop (mkF m 26 #[.val (.ref ac), .val (.int (1 : Int32)), .val (.ref ab), .val (.int (1 : Int32)), .val (.int (2 : Int32)), .val (.int (1 : Int32)), .val (.int x1)] []))
  refine OGo.st (fun _ k_ => XS.aloadN X2.here hx rfl (hb hby own_d_jdk_52_method_21_code_26) rfl rfl k_) ?_
  show OGo p.tables e below _ (T2.setTop (mkF m 27 #[.val (.ref ac), .val (.int (1 : Int32)), .val (.ref ab), .val (.int (1 : Int32)), .val (.int (2 : Int32)), .val (.int (1 : Int32)), .val (.int x1)] [(.ref ab)]))
  refine OGo.st (fun _ k_ => XS.iloadN X2.here hx rfl (hb hby own_d_jdk_52_method_21_code_27) rfl k_) ?_
  show OGo p.tables e below _ (T2.setTop (mkF m 28 #[.val (.ref ac), .val (.int (1 : Int32)), .val (.ref ab), .val (.int (1 : Int32)), .val (.int (2 : Int32)), .val (.int (1 : Int32)), .val (.int x1)] [(.int (1 : Int32)), (.ref ab)]))
  refine OGo.st (fun _ k_ => XS.iload X2.here hx rfl (hb hby own_d_jdk_52_method_21_code_28) rfl k_) ?_
  show OGo p.tables e below _ (T2.setTop (mkF m 30 #[.val (.ref ac), .val (.int (1 : Int32)), .val (.ref ab), .val (.int (1 : Int32)), .val (.int (2 : Int32)), .val (.int (1 : Int32)), .val (.int x1)] [(.int x1), (.int (1 : Int32)), (.ref ab)]))
  refine OGo.st (fun _ k_ => XS.i2b X2.here hx rfl (hb hby own_d_jdk_52_method_21_code_30) rfl k_) ?_
  show OGo p.tables e below _ (T2.setTop (mkF m 31 #[.val (.ref ac), .val (.int (1 : Int32)), .val (.ref ab), .val (.int (1 : Int32)), .val (.int (2 : Int32)), .val (.int (1 : Int32)), .val (.int x1)] [(.int x1.toInt8.toInt32), (.int (1 : Int32)), (.ref ab)]))
  obtain ⟨T6, hz6, X6, ez6, W6, V6, st6⟩ := own_stB X2 hx hZ ez2 V2 (j := (1 : Int32)) (by decide)  (g := (mkF m 31 #[.val (.ref ac), .val (.int (1 : Int32)), .val (.ref ab), .val (.int (1 : Int32)), .val (.int (2 : Int32)), .val (.int (1 : Int32)), .val (.int x1)] [(.int x1.toInt8.toInt32), (.int (1 : Int32)), (.ref ab)])) rfl rfl (hb hby own_d_jdk_52_method_21_code_31)
  have Af_7 := Af_3.other W6 ne_ac_ab
  have N6 := Fr.snoc X6 N2 g_ab
  have K_8 : Keep h0 hz6 [ab] := K_4.wr W6 (Or.inl (List.mem_of_getElem? (i := 0) rfl))
  refine OGo.st st6 ?_
  show OGo p.tables e below _ (T6.setTop (mkF m 32 #[.val (.ref ac), .val (.int (1 : Int32)), .val (.ref ab), .val (.int (1 : Int32)), .val (.int (2 : Int32)), .val (.int (1 : Int32)), .val (.int x1)] []))
  refine OGo.st (fun _ k_ => XS.iinc X6.here hx rfl (hb hby own_d_jdk_52_method_21_code_32) rfl (l' := #[.val (.ref ac), .val (.int (2 : Int32)), .val (.ref ab), .val (.int (1 : Int32)), .val (.int (2 : Int32)), .val (.int (1 : Int32)), .val (.int x1)]) rfl k_) ?_
  show OGo p.tables e below _ (T6.setTop (mkF m 35 #[.val (.ref ac), .val (.int (2 : Int32)), .val (.ref ab), .val (.int (1 : Int32)), .val (.int (2 : Int32)), .val (.int (1 : Int32)), .val (.int x1)] []))
  refine OGo.st (fun _ k_ => XS.iinc X6.here hx rfl (hb hby own_d_jdk_52_method_21_code_35) rfl (l' := #[.val (.ref ac), .val (.int (2 : Int32)), .val (.ref ab), .val (.int (2 : Int32)), .val (.int (2 : Int32)), .val (.int (1 : Int32)), .val (.int x1)]) rfl k_) ?_
  show OGo p.tables e below _ (T6.setTop (mkF m 38 #[.val (.ref ac), .val (.int (2 : Int32)), .val (.ref ab), .val (.int (2 : Int32)), .val (.int (2 : Int32)), .val (.int (1 : Int32)), .val (.int x1)] []))
  refine OGo.st (fun _ k_ => XS.iinc X6.here hx rfl (hb hby own_d_jdk_52_method_21_code_38) rfl (l' := #[.val (.ref ac), .val (.int (2 : Int32)), .val (.ref ab), .val (.int (2 : Int32)), .val (.int (2 : Int32)), .val (.int (2 : Int32)), .val (.int x1)]) rfl k_) ?_
  show OGo p.tables e below _ (T6.setTop (mkF m 41 #[.val (.ref ac), .val (.int (2 : Int32)), .val (.ref ab), .val (.int (2 : Int32)), .val (.int (2 : Int32)), .val (.int (2 : Int32)), .val (.int x1)] []))
  refine OGo.st (fun _ k_ => XS.goto X6.here hx rfl (pc0 := 41) (pc' := 3) rfl (hb hby own_d_jdk_52_method_21_code_41) (by decide) (by decide) k_) ?_
  show OGo p.tables e below _ (T6.setTop (mkF m 3 #[.val (.ref ac), .val (.int (2 : Int32)), .val (.ref ab), .val (.int (2 : Int32)), .val (.int (2 : Int32)), .val (.int (2 : Int32)), .val (.int x1)] []))
  refine OGo.st (fun _ k_ => XS.iload X6.here hx rfl (hb hby own_d_jdk_52_method_21_code_3) rfl k_) ?_
  show OGo p.tables e below _ (T6.setTop (mkF m 5 #[.val (.ref ac), .val (.int (2 : Int32)), .val (.ref ab), .val (.int (2 : Int32)), .val (.int (2 : Int32)), .val (.int (2 : Int32)), .val (.int x1)] [(.int (2 : Int32))]))
  refine OGo.st (fun _ k_ => XS.iload X6.here hx rfl (hb hby own_d_jdk_52_method_21_code_5) rfl k_) ?_
  show OGo p.tables e below _ (T6.setTop (mkF m 7 #[.val (.ref ac), .val (.int (2 : Int32)), .val (.ref ab), .val (.int (2 : Int32)), .val (.int (2 : Int32)), .val (.int (2 : Int32)), .val (.int x1)] [(.int (2 : Int32)), (.int (2 : Int32))]))
  refine OGo.st (fun _ k_ => XS.icmpYes X6.here hx rfl (pc0 := 7) (pc' := 44) rfl (hb hby own_d_jdk_52_method_21_code_7) rfl (XT.ii_ge_t (by decide)) (by decide) (by decide) k_) ?_
  show OGo p.tables e below _ (T6.setTop (mkF m 44 #[.val (.ref ac), .val (.int (2 : Int32)), .val (.ref ab), .val (.int (2 : Int32)), .val (.int (2 : Int32)), .val (.int (2 : Int32)), .val (.int x1)] []))
  refine OGo.st (fun _ k_ => XS.iload X6.here hx rfl (hb hby own_d_jdk_52_method_21_code_44) rfl k_) ?_
  show OGo p.tables e below _ (T6.setTop (mkF m 46 #[.val (.ref ac), .val (.int (2 : Int32)), .val (.ref ab), .val (.int (2 : Int32)), .val (.int (2 : Int32)), .val (.int (2 : Int32)), .val (.int x1)] [(.int (2 : Int32))]))
  refine OGo.fin X6 (v := some (.int (2 : Int32))) (fun h => by rw [Bd.returns] at h; cases h) hlk (fun fs hr => X6.ireturnOut hx Bd.returns rfl (Or.inl rfl) (hb hby own_d_jdk_52_method_21_code_46) hr) ?_ (by decide) (by decide)
  show own_Q_rm1 Z ac ab kc kb x0 x1 h0 n0 _ T6.heap _
  rw [ez6]
  exact ⟨rfl, N6, K_8, _, V6⟩
theorem own_d_jdk_52_method_16_code_0 : decode jdk_52_method_16_code 0 = .ok (.iload_n 2, 1) := by decide +kernel
theorem own_d_jdk_52_method_16_code_1 : decode jdk_52_method_16_code 1 = .ok (.newarray .byte, 2) := by decide +kernel
theorem own_d_jdk_52_method_16_code_3 : decode jdk_52_method_16_code 3 = .ok (.astore_n 3, 1) := by decide +kernel
theorem own_d_jdk_52_method_16_code_4 : decode jdk_52_method_16_code 4 = .ok (.aload_n 0, 1) := by decide +kernel
theorem own_d_jdk_52_method_16_code_5 : decode jdk_52_method_16_code 5 = .ok (.iload_n 1, 1) := by decide +kernel
theorem own_d_jdk_52_method_16_code_6 : decode jdk_52_method_16_code 6 = .ok (.aload_n 3, 1) := by decide +kernel
theorem own_d_jdk_52_method_16_code_7 : decode jdk_52_method_16_code 7 = .ok (.iconst 0, 1) := by decide +kernel
theorem own_d_jdk_52_method_16_code_8 : decode jdk_52_method_16_code 8 = .ok (.iload_n 2, 1) := by decide +kernel
theorem own_d_jdk_52_method_16_code_9 : decode jdk_52_method_16_code 9 = .ok (.invokestatic 115, 3) := by decide +kernel
theorem own_pd0 : parseMethodDescriptor "([CI[BII)I" = some ⟨[(.array .char), .int, (.array .byte), .int, .int], some .int⟩ := by decide +kernel
theorem own_d_jdk_52_method_16_code_12 : decode jdk_52_method_16_code 12 = .ok (.istore 4, 2) := by decide +kernel
theorem own_d_jdk_52_method_16_code_14 : decode jdk_52_method_16_code 14 = .ok (.iload 4, 2) := by decide +kernel
theorem own_d_jdk_52_method_16_code_16 : decode jdk_52_method_16_code 16 = .ok (.iload_n 2, 1) := by decide +kernel
theorem own_d_jdk_52_method_16_code_17 : decode jdk_52_method_16_code 17 = .ok (.if_icmp .eq 40, 3) := by decide +kernel
theorem own_d_jdk_52_method_16_code_57 : decode jdk_52_method_16_code 57 = .ok (.aload_n 3, 1) := by decide +kernel
theorem own_d_jdk_52_method_16_code_58 : decode jdk_52_method_16_code 58 = .ok (.areturn, 1) := by decide +kernel
theorem own_ef_rm2 (m : MethodId) (x0 : Addr) (x1 : Int32) (x2 : Int32) : entryFrame m #[(.ref x0), (.int x1), (.int x2)] 6 = mkF m 0 #[.val (.ref x0), .val (.int x1), .val (.int x2), .unset, .unset, .unset] [] := by first | (simp [entryFrame, mkF, argsToLocals, Value.category]; done) | rfl
def own_Q_rm2 (Z : State) (ac : Addr) (kc : ClassId) (x0 x1 : Int32) (h0 : Heap) (n0 : Nat) (v : Option Value) (h : Heap) (L : List Loc) : Prop := ∃ y kb f, v = some (.ref y) ∧ Fr n0 L ∧ Keep h0 h [] ∧ n0 ≤ y ∧ h0.size ≤ y ∧ Arf Z h y kb .byte 2 f
set_option maxRecDepth 65536 in
set_option maxHeartbeats 40000000 in
theorem rm2 (l : Launch) (Z : State) (a0 : Array Value) (hw : ∀ d ∈ tables_1, d.before a0 Z = true) (ws : List Jvm.Cond) (ac : Addr) (kc : ClassId) (x0 x1 : Int32) (h0 : Heap) (n0 : Nat) (Z0 : n0 ≤ h0.size) (A_ac : Arf Z h0 ac kc .char 2 (own_B x0 x1)) (h0_ : ¬ (255 : Int32) < x0) (h1_ : ¬ (255 : Int32) < x1) :
    OMet l Z (⟨"java/lang/StringUTF16", "compress", "([CII)[B"⟩ : MethodName) jdk_52_method_16_code 6 (some (.array .byte)) ws ({ frames := 1, cells := 1, slots := 2, locals := 18 } : Room) #[(.ref ac), (.int (0 : Int32)), (.int (2 : Int32))] h0 (own_Q_rm2 Z ac kc x0 x1 h0 n0) := by
  refine MetFree.of_bodySF (plainFor_of_name own_pn0) hisR ?_
  intro p e s m args below meth c s₁ Bd hml0 hP hK
  obtain ⟨rfl, hZ, hh⟩ := hP
  have hx := Bd.exec
  have hby := Bd.bytes
  have hml : c.maxLocals = 6 := hml0
  have hown : s.vm.findClass "java/lang/StringUTF16" = some m.cls := findClass_of_methodNamed Bd.named
  have hnm := (name_of_methodNamed Bd.named Bd.method).1
  have hlk : meth.locks = false := Bd.notSynchronized
  have X0 : Stand p l e ({ frames := 1, cells := 1, slots := 2, locals := 18 } : Room) s m #[(.ref ac), (.int (0 : Int32)), (.int (2 : Int32))] below meth c s₁ [] 0 0 := Stand.of_body Bd
  have e0 : s₁.heap = h0 := by rw [← hh, Bd.state]; rfl
  have N0 := Fr.nil n0
  refine OGo.enter (P := OPost s (own_Q_rm2 Z ac kc x0 x1 h0 n0) 1 2) (own_ef_rm2 m ac (0 : Int32) (2 : Int32)) ?_
  show OGo p.tables e below _ (s₁.setTop (mkF m 0 #[.val (.ref ac), .val (.int (0 : Int32)), .val (.int (2 : Int32)), .unset, .unset, .unset] []))
  refine OGo.st (fun _ k_ => XS.iloadN X0.here hx rfl (hb hby own_d_jdk_52_method_16_code_0) rfl k_) ?_
  show OGo p.tables e below _ (s₁.setTop (mkF m 1 #[.val (.ref ac), .val (.int (0 : Int32)), .val (.int (2 : Int32)), .unset, .unset, .unset] [(.int (2 : Int32))]))
  obtain ⟨T1, hz1, kz1, X1, ez1, Ez1, Az1, st1⟩ := newP X0 hx hZ (hw _ (List.mem_of_getElem? (i := 23) rfl)) e0 (g := (mkF m 1 #[.val (.ref ac), .val (.int (0 : Int32)), .val (.int (2 : Int32)), .unset, .unset, .unset] [(.int (2 : Int32))])) rfl (hb hby own_d_jdk_52_method_16_code_1) rfl (by decide) (cap := 2) (by decide) (by decide) (by decide) (by decide)
  obtain ⟨bz1, g1⟩ : ∃ z, z = h0.size := ⟨_, rfl⟩
  rw [← g1] at Az1 st1
  have lt_ac_bz1 : ac < bz1 := Nat.lt_of_lt_of_le A_ac.lt (Nat.le_of_eq g1.symm)
  have g_bz1 : n0 ≤ bz1 := Nat.le_trans (Nat.le_trans Z0 (Keep.refl h0 []).1) (Nat.le_of_eq g1.symm)
  have sz_bz1 : h0.size ≤ bz1 := Nat.le_trans (Keep.refl h0 []).1 (Nat.le_of_eq g1.symm)
  have Af_2 := A_ac.ext Ez1
  have K_3 : Keep h0 hz1 [] := (Keep.refl h0 []).ext Ez1
  have V_bz1 : Arf Z hz1 bz1 kz1 .byte (2 : Int32) (fun _ => (.int (0 : Int32))) := own_new Az1 (by decide)
  refine OGo.st st1 ?_
  show OGo p.tables e below _ (T1.setTop (mkF m 3 #[.val (.ref ac), .val (.int (0 : Int32)), .val (.int (2 : Int32)), .unset, .unset, .unset] [(.ref bz1)]))
  refine OGo.st (fun _ k_ => XS.astoreN X1.here hx rfl (hb hby own_d_jdk_52_method_16_code_3) rfl rfl (l' := #[.val (.ref ac), .val (.int (0 : Int32)), .val (.int (2 : Int32)), .val (.ref bz1), .unset, .unset]) rfl k_) ?_
  show OGo p.tables e below _ (T1.setTop (mkF m 4 #[.val (.ref ac), .val (.int (0 : Int32)), .val (.int (2 : Int32)), .val (.ref bz1), .unset, .unset] []))
  refine OGo.st (fun _ k_ => XS.aloadN X1.here hx rfl (hb hby own_d_jdk_52_method_16_code_4) rfl rfl k_) ?_
  show OGo p.tables e below _ (T1.setTop (mkF m 5 #[.val (.ref ac), .val (.int (0 : Int32)), .val (.int (2 : Int32)), .val (.ref bz1), .unset, .unset] [(.ref ac)]))
  refine OGo.st (fun _ k_ => XS.iloadN X1.here hx rfl (hb hby own_d_jdk_52_method_16_code_5) rfl k_) ?_
  show OGo p.tables e below _ (T1.setTop (mkF m 6 #[.val (.ref ac), .val (.int (0 : Int32)), .val (.int (2 : Int32)), .val (.ref bz1), .unset, .unset] [(.int (0 : Int32)), (.ref ac)]))
  refine OGo.st (fun _ k_ => XS.aloadN X1.here hx rfl (hb hby own_d_jdk_52_method_16_code_6) rfl rfl k_) ?_
  show OGo p.tables e below _ (T1.setTop (mkF m 7 #[.val (.ref ac), .val (.int (0 : Int32)), .val (.int (2 : Int32)), .val (.ref bz1), .unset, .unset] [(.ref bz1), (.int (0 : Int32)), (.ref ac)]))
  refine OGo.st (fun _ k_ => XS.iconst X1.here hx rfl (hb hby own_d_jdk_52_method_16_code_7) k_) ?_
  show OGo p.tables e below _ (T1.setTop (mkF m 8 #[.val (.ref ac), .val (.int (0 : Int32)), .val (.int (2 : Int32)), .val (.ref bz1), .unset, .unset] [(.int (0 : Int32)), (.ref bz1), (.int (0 : Int32)), (.ref ac)]))
  refine OGo.st (fun _ k_ => XS.iloadN X1.here hx rfl (hb hby own_d_jdk_52_method_16_code_8) rfl k_) ?_
  show OGo p.tables e below _ (T1.setTop (mkF m 9 #[.val (.ref ac), .val (.int (0 : Int32)), .val (.int (2 : Int32)), .val (.ref bz1), .unset, .unset] [(.int (2 : Int32)), (.int (0 : Int32)), (.ref bz1), (.int (0 : Int32)), (.ref ac)]))
  obtain ⟨_, _, ⟨T4, Lz4, kz4, nz4⟩, -, X4, ⟨Lc4, hQ4, lz4, yz4, zz4⟩, st4⟩ := Jvm.LawKit.callS X1 hx (y := (⟨"java/lang/StringUTF16", "compress", "([CI[BII)I"⟩ : MethodName)) hown (mvT hZ (hw _ (List.mem_of_getElem? (i := 24) rfl))) (mvT hZ (hw _ (List.mem_of_getElem? (i := 25) rfl))) (mvT hZ (hw _ (List.mem_of_getElem? (i := 21) rfl))) (mvT hZ (hw _ (List.mem_of_getElem? (i := 26) rfl))) (by decide) (backOf (W := 0) (rm1 l Z a0 hw [] ac bz1 kc kz1 x0 x1 hz1 n0 (Nat.le_trans Z0 K_3.1) Af_2 V_bz1 g_bz1 (Nat.ne_of_lt lt_ac_bz1) h0_ h1_) hZ (hw _ (List.mem_of_getElem? (i := 26) rfl)) (hw _ (List.mem_of_getElem? (i := 21) rfl)) (by decide) (by decide)) (g := (mkF m 9 #[.val (.ref ac), .val (.int (0 : Int32)), .val (.int (2 : Int32)), .val (.ref bz1), .unset, .unset] [(.int (2 : Int32)), (.int (0 : Int32)), (.ref bz1), (.int (0 : Int32)), (.ref ac)])) rfl (by rw [hml]; rfl) (argsL := [(.ref ac), (.int (0 : Int32)), (.ref bz1), (.int (0 : Int32)), (.int (2 : Int32))]) (rest := []) (lenOf own_pd0 rfl) rfl (by show 2 * 0 + _ ≤ _; exact Nat.le_of_eq rfl) (hb hby own_d_jdk_52_method_16_code_9) (fun _ _ => ⟨rfl, ez1, (by decide : 1 + 0 ≤ _), (by decide : 2 + 0 ≤ _)⟩)
  dsimp only [Pt.U, Pt.locs, Pt.cells, Pt.slots] at X4 lz4 yz4 zz4 st4 hQ4
  subst lz4 yz4 zz4
  obtain ⟨rfl, Nq4, Kq4, fq4, Aq4⟩ := hQ4
  have N4 := Fr.app N0 Nq4
  have Af_5 := Af_2.keep Kq4 (ninS (Nat.ne_of_lt lt_ac_bz1) nin0)
  have K_6 : Keep h0 T4.heap [] := K_3.trans Kq4 (allS (Or.inr sz_bz1) all0)
  refine OGo.st st4 ?_
  show OGo p.tables e below _ (T4.setTop (mkF m 12 #[.val (.ref ac), .val (.int (0 : Int32)), .val (.int (2 : Int32)), .val (.ref bz1), .unset, .unset] [(.int (2 : Int32))]))
  refine OGo.st (fun _ k_ => XS.istore X4.here hx rfl (hb hby own_d_jdk_52_method_16_code_12) rfl (l' := #[.val (.ref ac), .val (.int (0 : Int32)), .val (.int (2 : Int32)), .val (.ref bz1), .val (.int (2 : Int32)), .unset]) rfl k_) ?_
  show OGo p.tables e below _ (T4.setTop (mkF m 14 #[.val (.ref ac), .val (.int (0 : Int32)), .val (.int (2 : Int32)), .val (.ref bz1), .val (.int (2 : Int32)), .unset] []))
  refine OGo.st (fun _ k_ => XS.iload X4.here hx rfl (hb hby own_d_jdk_52_method_16_code_14) rfl k_) ?_
  show OGo p.tables e below _ (T4.setTop (mkF m 16 #[.val (.ref ac), .val (.int (0 : Int32)), .val (.int (2 : Int32)), .val (.ref bz1), .val (.int (2 : Int32)), .unset] [(.int (2 : Int32))]))
  refine OGo.st (fun _ k_ => XS.iloadN X4.here hx rfl (hb hby own_d_jdk_52_method_16_code_16) rfl k_) ?_
  show OGo p.tables e below _ (T4.setTop (mkF m 17 #[.val (.ref ac), .val (.int (0 : Int32)), .val (.int (2 : Int32)), .val (.ref bz1), .val (.int (2 : Int32)), .unset] [(.int (2 : Int32)), (.int (2 : Int32))]))
  refine OGo.st (fun _ k_ => XS.icmpYes X4.here hx rfl (pc0 := 17) (pc' := 57) rfl (hb hby own_d_jdk_52_method_16_code_17) rfl (XT.ii_eq_t (by decide)) (by decide) (by decide) k_) ?_
  show OGo p.tables e below _ (T4.setTop (mkF m 57 #[.val (.ref ac), .val (.int (0 : Int32)), .val (.int (2 : Int32)), .val (.ref bz1), .val (.int (2 : Int32)), .unset] []))
  refine OGo.st (fun _ k_ => XS.aloadN X4.here hx rfl (hb hby own_d_jdk_52_method_16_code_57) rfl rfl k_) ?_
  show OGo p.tables e below _ (T4.setTop (mkF m 58 #[.val (.ref ac), .val (.int (0 : Int32)), .val (.int (2 : Int32)), .val (.ref bz1), .val (.int (2 : Int32)), .unset] [(.ref bz1)]))
  refine OGo.fin X4 (v := some (.ref bz1)) (fun h => by rw [Bd.returns] at h; cases h) hlk (fun fs hr => X4.areturnOut hx rfl Bd.returns rfl (hb hby own_d_jdk_52_method_16_code_58) hr) ?_ (by decide) (by decide)
  show own_Q_rm2 Z ac kc x0 x1 h0 n0 _ T4.heap _
  skip
  exact ⟨_, _, _, rfl, N4, K_6, g_bz1, sz_bz1, Aq4⟩
theorem own_d_jdk_52_method_15_code_0 : decode jdk_52_method_15_code 0 = .ok (.iload_n 1, 1) := by decide +kernel
theorem own_d_jdk_52_method_15_code_1 : decode jdk_52_method_15_code 1 = .ok (.aload_n 0, 1) := by decide +kernel
theorem own_d_jdk_52_method_15_code_2 : decode jdk_52_method_15_code 2 = .ok (.arraylength, 1) := by decide +kernel
theorem own_d_jdk_52_method_15_code_3 : decode jdk_52_method_15_code 3 = .ok (.isub, 1) := by decide +kernel
theorem own_d_jdk_52_method_15_code_4 : decode jdk_52_method_15_code 4 = .ok (.bipush 31, 2) := by decide +kernel
theorem own_d_jdk_52_method_15_code_6 : decode jdk_52_method_15_code 6 = .ok (.iushr, 1) := by decide +kernel
theorem own_d_jdk_52_method_15_code_7 : decode jdk_52_method_15_code 7 = .ok (.i2b, 1) := by decide +kernel
theorem own_d_jdk_52_method_15_code_8 : decode jdk_52_method_15_code 8 = .ok (.ireturn, 1) := by decide +kernel
theorem own_ef_rm3 (m : MethodId) (x0 : Addr) (x1 : Int32) : entryFrame m #[(.ref x0), (.int x1)] 2 = mkF m 0 #[.val (.ref x0), .val (.int x1)] [] := by first | (simp [entryFrame, mkF, argsToLocals, Value.category]; done) | rfl
def own_Q_rm3 (Z : State) (ab : Addr) (kb : ClassId) (f : Nat → Value) (h0 : Heap) (n0 : Nat) (v : Option Value) (h : Heap) (L : List Loc) : Prop := v = some (.int 0) ∧ Fr n0 L ∧ h = h0
set_option maxRecDepth 65536 in
set_option maxHeartbeats 40000000 in
theorem rm3 (l : Launch) (Z : State) (a0 : Array Value) (hw : ∀ d ∈ tables_1, d.before a0 Z = true) (ws : List Jvm.Cond) (ab : Addr) (kb : ClassId) (f : Nat → Value) (h0 : Heap) (n0 : Nat) (Z0 : n0 ≤ h0.size) (A_ab : Arf Z h0 ab kb .byte 2 f) :
    OMet l Z (⟨"java/lang/StringUTF16", "coderFromArrayLen", "([BI)B"⟩ : MethodName) jdk_52_method_15_code 2 (some .byte) ws ({ frames := 0, cells := 0, slots := 0, locals := 0 } : Room) #[(.ref ab), (.int (2 : Int32))] h0 (own_Q_rm3 Z ab kb f h0 n0) := by
  refine MetFree.of_bodySF (plainFor_of_name own_pn0) hisR ?_
  intro p e s m args below meth c s₁ Bd hml0 hP hK
  obtain ⟨rfl, hZ, hh⟩ := hP
  have hx := Bd.exec
  have hby := Bd.bytes
  have hml : c.maxLocals = 2 := hml0
  have hown : s.vm.findClass "java/lang/StringUTF16" = some m.cls := findClass_of_methodNamed Bd.named
  have hnm := (name_of_methodNamed Bd.named Bd.method).1
  have hlk : meth.locks = false := Bd.notSynchronized
  have X0 : Stand p l e ({ frames := 0, cells := 0, slots := 0, locals := 0 } : Room) s m #[(.ref ab), (.int (2 : Int32))] below meth c s₁ [] 0 0 := Stand.of_body Bd
  have e0 : s₁.heap = h0 := by rw [← hh, Bd.state]; rfl
  have N0 := Fr.nil n0
  refine OGo.enter (P := OPost s (own_Q_rm3 Z ab kb f h0 n0) 0 0) (own_ef_rm3 m ab (2 : Int32)) ?_
  show OGo p.tables e below _ (s₁.setTop (mkF m 0 #[.val (.ref ab), .val (.int (2 : Int32))] []))
  refine OGo.st (fun _ k_ => XS.iloadN X0.here hx rfl (hb hby own_d_jdk_52_method_15_code_0) rfl k_) ?_
  show OGo p.tables e below _ (s₁.setTop (mkF m 1 #[.val (.ref ab), .val (.int (2 : Int32))] [(.int (2 : Int32))]))
  refine OGo.st (fun _ k_ => XS.aloadN X0.here hx rfl (hb hby own_d_jdk_52_method_15_code_1) rfl rfl k_) ?_
  show OGo p.tables e below _ (s₁.setTop (mkF m 2 #[.val (.ref ab), .val (.int (2 : Int32))] [(.ref ab), (.int (2 : Int32))]))
  have qz1 := own_alen X0 hx hZ e0 A_ab (g := (mkF m 2 #[.val (.ref ab), .val (.int (2 : Int32))] [(.ref ab), (.int (2 : Int32))])) rfl rfl (hb hby own_d_jdk_52_method_15_code_2)
  refine OGo.st qz1 ?_
  show OGo p.tables e below _ (s₁.setTop (mkF m 3 #[.val (.ref ab), .val (.int (2 : Int32))] [(.int (2 : Int32)), (.int (2 : Int32))]))
  refine OGo.st (fun _ k_ => XS.isub X0.here hx rfl (hb hby own_d_jdk_52_method_15_code_3) rfl k_) ?_
  show OGo p.tables e below _ (s₁.setTop (mkF m 4 #[.val (.ref ab), .val (.int (2 : Int32))] [(.int (0 : Int32))]))
  refine OGo.st (fun _ k_ => XS.bipush X0.here hx rfl (hb hby own_d_jdk_52_method_15_code_4) k_) ?_
  show OGo p.tables e below _ (s₁.setTop (mkF m 6 #[.val (.ref ab), .val (.int (2 : Int32))] [(.int (31 : Int32)), (.int (0 : Int32))]))
  refine OGo.st (fun _ k_ => XS.iushr X0.here hx rfl (hb hby own_d_jdk_52_method_15_code_6) rfl k_) ?_
  show OGo p.tables e below _ (s₁.setTop (mkF m 7 #[.val (.ref ab), .val (.int (2 : Int32))] [(.int (0 : Int32))]))
  refine OGo.st (fun _ k_ => XS.i2b X0.here hx rfl (hb hby own_d_jdk_52_method_15_code_7) rfl k_) ?_
  show OGo p.tables e below _ (s₁.setTop (mkF m 8 #[.val (.ref ab), .val (.int (2 : Int32))] [(.int (0 : Int32).toInt8.toInt32)]))
  refine OGo.fin X0 (v := some (.int (0 : Int32).toInt8.toInt32)) (fun h => by rw [Bd.returns] at h; cases h) hlk (fun fs hr => X0.ireturnOut hx Bd.returns rfl (by simp) (hb hby own_d_jdk_52_method_15_code_8) hr) ?_ (by decide) (by decide)
  show own_Q_rm3 Z ab kb f h0 n0 _ s₁.heap _
  rw [e0]
  exact ⟨rfl, N0, rfl⟩
theorem own_d_jdk_42_method_149_code_0 : decode jdk_42_method_149_code 0 = .ok (.aload_n 0, 1) := by decide +kernel
theorem own_d_jdk_42_method_149_code_1 : decode jdk_42_method_149_code 1 = .ok (.invokespecial 1, 3) := by decide +kernel
theorem own_d_jdk_42_method_149_code_4 : decode jdk_42_method_149_code 4 = .ok (.iload_n 3, 1) := by decide +kernel
theorem own_d_jdk_42_method_149_code_5 : decode jdk_42_method_149_code 5 = .ok (.ifCond .ne 22, 3) := by decide +kernel
theorem own_d_jdk_42_method_149_code_27 : decode jdk_42_method_149_code 27 = .ok (.getstatic 38, 3) := by decide +kernel
theorem own_d_jdk_42_method_149_code_30 : decode jdk_42_method_149_code 30 = .ok (.ifCond .eq 28, 3) := by decide +kernel
theorem own_d_jdk_42_method_149_code_33 : decode jdk_42_method_149_code 33 = .ok (.aload_n 1, 1) := by decide +kernel
theorem own_d_jdk_42_method_149_code_34 : decode jdk_42_method_149_code 34 = .ok (.iload_n 2, 1) := by decide +kernel
theorem own_d_jdk_42_method_149_code_35 : decode jdk_42_method_149_code 35 = .ok (.iload_n 3, 1) := by decide +kernel
theorem own_d_jdk_42_method_149_code_36 : decode jdk_42_method_149_code 36 = .ok (.invokestatic 177, 3) := by decide +kernel
theorem own_pd1 : parseMethodDescriptor "([CII)[B" = some ⟨[(.array .char), .int, .int], some (.array .byte)⟩ := by decide +kernel
theorem own_d_jdk_42_method_149_code_39 : decode jdk_42_method_149_code 39 = .ok (.astore 5, 2) := by decide +kernel
theorem own_d_jdk_42_method_149_code_41 : decode jdk_42_method_149_code 41 = .ok (.aload_n 0, 1) := by decide +kernel
theorem own_d_jdk_42_method_149_code_42 : decode jdk_42_method_149_code 42 = .ok (.aload 5, 2) := by decide +kernel
theorem own_d_jdk_42_method_149_code_44 : decode jdk_42_method_149_code 44 = .ok (.iload_n 3, 1) := by decide +kernel
theorem own_d_jdk_42_method_149_code_45 : decode jdk_42_method_149_code 45 = .ok (.invokestatic 47, 3) := by decide +kernel
theorem own_pd2 : parseMethodDescriptor "([BI)B" = some ⟨[(.array .byte), .int], some .byte⟩ := by decide +kernel
theorem own_d_jdk_42_method_149_code_48 : decode jdk_42_method_149_code 48 = .ok (.putfield 15, 3) := by decide +kernel
theorem own_d_jdk_42_method_149_code_51 : decode jdk_42_method_149_code 51 = .ok (.aload_n 0, 1) := by decide +kernel
theorem own_d_jdk_42_method_149_code_52 : decode jdk_42_method_149_code 52 = .ok (.aload 5, 2) := by decide +kernel
theorem own_d_jdk_42_method_149_code_54 : decode jdk_42_method_149_code 54 = .ok (.putfield 9, 3) := by decide +kernel
theorem own_d_jdk_42_method_149_code_57 : decode jdk_42_method_149_code 57 = .ok (.return_, 1) := by decide +kernel
theorem own_pn1 : plainName "java/lang/String" = true := by first | (simp [plainName, overriddenIn]; done) | decide +kernel
theorem own_ef_rm4 (m : MethodId) (x0 : Addr) (x1 : Addr) (x2 : Int32) (x3 : Int32) : entryFrame m #[(.ref x0), (.ref x1), (.int x2), (.int x3), .null] 6 = mkF m 0 #[.val (.ref x0), .val (.ref x1), .val (.int x2), .val (.int x3), .val .null, .unset] [] := by first | (simp [entryFrame, mkF, argsToLocals, Value.category]; done) | rfl
def own_Q_rm4 (Z : State) (a1 ac : Addr) (kc : ClassId) (x0 x1 cs : Int32) (h0 : Heap) (n0 : Nat) (v : Option Value) (h : Heap) (L : List Loc) : Prop := v = none ∧ Fr n0 L ∧ Keep h0 h [a1]
set_option maxRecDepth 65536 in
set_option maxHeartbeats 40000000 in
theorem rm4 (l : Launch) (Z : State) (a0 : Array Value) (hw : ∀ d ∈ tables_1, d.before a0 Z = true) (ws : List Jvm.Cond) (a1 ac : Addr) (kc : ClassId) (x0 x1 cs : Int32) (h0 : Heap) (n0 : Nat) (Z0 : n0 ≤ h0.size) (E_a1 : Exa Z h0 a1 "java/lang/String") (F_value_a1 : Fld Z h0 a1 "java/lang/String" "value" "[B" .null) (F_coder_a1 : Fld Z h0 a1 "java/lang/String" "coder" "B" (.int (0 : Int32))) (g_a1 : n0 ≤ a1) (A_ac : Arf Z h0 ac kc .char 2 (own_B x0 x1)) (ne_ac_a1 : ac ≠ a1) (h0_ : ¬ (255 : Int32) < x0) (h1_ : ¬ (255 : Int32) < x1) (S_cs : Sta Z h0 "java/lang/String" "COMPACT_STRINGS" "Z" (.int cs)) (hcs : ¬ cs = 0) :
    OMet l Z (⟨"java/lang/String", "<init>", "([CIILjava/lang/Void;)V"⟩ : MethodName) jdk_42_method_149_code 6 none ws ({ frames := 2, cells := 1, slots := 2, locals := 35 } : Room) #[(.ref a1), (.ref ac), (.int (0 : Int32)), (.int (2 : Int32)), .null] h0 (own_Q_rm4 Z a1 ac kc x0 x1 cs h0 n0) := by
  refine MetFree.of_bodySF (plainFor_of_name own_pn1) hisR ?_
  intro p e s m args below meth c s₁ Bd hml0 hP hK
  obtain ⟨rfl, hZ, hh⟩ := hP
  have hx := Bd.exec
  have hby := Bd.bytes
  have hml : c.maxLocals = 6 := hml0
  have hown : s.vm.findClass "java/lang/String" = some m.cls := findClass_of_methodNamed Bd.named
  have hnm := (name_of_methodNamed Bd.named Bd.method).1
  have hlk : meth.locks = false := Bd.notSynchronized
  have X0 : Stand p l e ({ frames := 2, cells := 1, slots := 2, locals := 35 } : Room) s m #[(.ref a1), (.ref ac), (.int (0 : Int32)), (.int (2 : Int32)), .null] below meth c s₁ [] 0 0 := Stand.of_body Bd
  have e0 : s₁.heap = h0 := by rw [← hh, Bd.state]; rfl
  have N0 := Fr.nil n0
  refine OGo.enter (P := OPost s (own_Q_rm4 Z a1 ac kc x0 x1 cs h0 n0) 1 2) (own_ef_rm4 m a1 ac (0 : Int32) (2 : Int32)) ?_
  show OGo p.tables e below _ (s₁.setTop (mkF m 0 #[.val (.ref a1), .val (.ref ac), .val (.int (0 : Int32)), .val (.int (2 : Int32)), .val .null, .unset] []))
  refine OGo.st (fun _ k_ => XS.aloadN X0.here hx rfl (hb hby own_d_jdk_42_method_149_code_0) rfl rfl k_) ?_
  show OGo p.tables e below _ (s₁.setTop (mkF m 1 #[.val (.ref a1), .val (.ref ac), .val (.int (0 : Int32)), .val (.int (2 : Int32)), .val .null, .unset] [(.ref a1)]))
  obtain ⟨T1, X1, ez1, st1⟩ := initO X0 hx hZ hown (hw _ (List.mem_of_getElem? (i := 15) rfl)) (hw _ (List.mem_of_getElem? (i := 16) rfl)) (hw _ (List.mem_of_getElem? (i := 17) rfl)) e0 (g := (mkF m 1 #[.val (.ref a1), .val (.ref ac), .val (.int (0 : Int32)), .val (.int (2 : Int32)), .val .null, .unset] [(.ref a1)])) rfl (by rw [hml]; rfl) rfl (hb hby own_d_jdk_42_method_149_code_1) (by decide) (W := 0) (by show 2 * 0 + _ ≤ _; exact Nat.le_of_eq rfl) (by decide)
  refine OGo.st st1 ?_
  show OGo p.tables e below _ (T1.setTop (mkF m 4 #[.val (.ref a1), .val (.ref ac), .val (.int (0 : Int32)), .val (.int (2 : Int32)), .val .null, .unset] []))
  refine OGo.st (fun _ k_ => XS.iloadN X1.here hx rfl (hb hby own_d_jdk_42_method_149_code_4) rfl k_) ?_
  show OGo p.tables e below _ (T1.setTop (mkF m 5 #[.val (.ref a1), .val (.ref ac), .val (.int (0 : Int32)), .val (.int (2 : Int32)), .val .null, .unset] [(.int (2 : Int32))]))
  refine OGo.st (fun _ k_ => XS.ifYes X1.here hx rfl (pc0 := 5) (pc' := 27) rfl (hb hby own_d_jdk_42_method_149_code_5) rfl (XT.i0_ne_t (by decide)) (by decide) (by decide) k_) ?_
  show OGo p.tables e below _ (T1.setTop (mkF m 27 #[.val (.ref a1), .val (.ref ac), .val (.int (0 : Int32)), .val (.int (2 : Int32)), .val .null, .unset] []))
  obtain ⟨T2, X2, ez2, st2⟩ := getS X1 hx hZ hown (host := "") (hw _ (List.mem_of_getElem? (i := 18) rfl)) Via.refl ez1 S_cs (g := (mkF m 27 #[.val (.ref a1), .val (.ref ac), .val (.int (0 : Int32)), .val (.int (2 : Int32)), .val .null, .unset] [])) rfl (hb hby own_d_jdk_42_method_149_code_27)
  refine OGo.st st2 ?_
  show OGo p.tables e below _ (T2.setTop (mkF m 30 #[.val (.ref a1), .val (.ref ac), .val (.int (0 : Int32)), .val (.int (2 : Int32)), .val .null, .unset] [(.int cs)]))
  refine OGo.st (fun _ k_ => XS.ifNo X2.here hx rfl (hb hby own_d_jdk_42_method_149_code_30) rfl (XT.i0_eq_f hcs) k_) ?_
  show OGo p.tables e below _ (T2.setTop (mkF m 33 #[.val (.ref a1), .val (.ref ac), .val (.int (0 : Int32)), .val (.int (2 : Int32)), .val .null, .unset] []))
  refine OGo.st (fun _ k_ => XS.aloadN X2.here hx rfl (hb hby own_d_jdk_42_method_149_code_33) rfl rfl k_) ?_
  show OGo p.tables e below _ (T2.setTop (mkF m 34 #[.val (.ref a1), .val (.ref ac), .val (.int (0 : Int32)), .val (.int (2 : Int32)), .val .null, .unset] [(.ref ac)]))
  refine OGo.st (fun _ k_ => XS.iloadN X2.here hx rfl (hb hby own_d_jdk_42_method_149_code_34) rfl k_) ?_
  show OGo p.tables e below _ (T2.setTop (mkF m 35 #[.val (.ref a1), .val (.ref ac), .val (.int (0 : Int32)), .val (.int (2 : Int32)), .val .null, .unset] [(.int (0 : Int32)), (.ref ac)]))
  refine OGo.st (fun _ k_ => XS.iloadN X2.here hx rfl (hb hby own_d_jdk_42_method_149_code_35) rfl k_) ?_
  show OGo p.tables e below _ (T2.setTop (mkF m 36 #[.val (.ref a1), .val (.ref ac), .val (.int (0 : Int32)), .val (.int (2 : Int32)), .val .null, .unset] [(.int (2 : Int32)), (.int (0 : Int32)), (.ref ac)]))
  obtain ⟨_, _, ⟨T3, Lz3, kz3, nz3⟩, -, X3, ⟨Lc3, hQ3, lz3, yz3, zz3⟩, st3⟩ := Jvm.LawKit.callS X2 hx (y := (⟨"java/lang/StringUTF16", "compress", "([CII)[B"⟩ : MethodName)) hown (mvT hZ (hw _ (List.mem_of_getElem? (i := 19) rfl))) (mvT hZ (hw _ (List.mem_of_getElem? (i := 20) rfl))) (mvT hZ (hw _ (List.mem_of_getElem? (i := 21) rfl))) (mvT hZ (hw _ (List.mem_of_getElem? (i := 22) rfl))) (by decide) (backOf (W := 0) (rm2 l Z a0 hw [] ac kc x0 x1 h0 n0 (Nat.le_trans Z0 (Keep.refl h0 [a1]).1) A_ac h0_ h1_) hZ (hw _ (List.mem_of_getElem? (i := 22) rfl)) (hw _ (List.mem_of_getElem? (i := 21) rfl)) (by decide) (by decide)) (g := (mkF m 36 #[.val (.ref a1), .val (.ref ac), .val (.int (0 : Int32)), .val (.int (2 : Int32)), .val .null, .unset] [(.int (2 : Int32)), (.int (0 : Int32)), (.ref ac)])) rfl (by rw [hml]; rfl) (argsL := [(.ref ac), (.int (0 : Int32)), (.int (2 : Int32))]) (rest := []) (lenOf own_pd1 rfl) rfl (by show 2 * 0 + _ ≤ _; exact Nat.le_of_eq rfl) (hb hby own_d_jdk_42_method_149_code_36) (fun _ _ => ⟨rfl, ez2, (by decide : 0 + 1 ≤ _), (by decide : 0 + 2 ≤ _)⟩)
  dsimp only [Pt.U, Pt.locs, Pt.cells, Pt.slots] at X3 lz3 yz3 zz3 st3 hQ3
  subst lz3 yz3 zz3
  obtain ⟨yq3, kq3, fq3, rfl, Nq3, Kq3, gq3, sq3, Aq3⟩ := hQ3
  have N3 := Fr.app N0 Nq3
  have szq3 : h0.size ≤ yq3 := Nat.le_trans (Keep.refl h0 [a1]).1 sq3
  have ne_a1_yq3 : a1 ≠ yq3 := (Nat.ne_of_lt (Nat.lt_of_lt_of_le E_a1.lt sq3))
  have ne_ac_yq3 : ac ≠ yq3 := (Nat.ne_of_lt (Nat.lt_of_lt_of_le A_ac.lt sq3))
  have Ex_4 := E_a1.keep Kq3
  have F_5 := F_value_a1.keep Kq3 nin0
  have F_6 := F_coder_a1.keep Kq3 nin0
  have Af_7 := A_ac.keep Kq3 nin0
  have K_8 : Keep h0 T3.heap [a1] := (Keep.refl h0 [a1]).trans Kq3 all0
  refine OGo.st st3 ?_
  show OGo p.tables e below _ (T3.setTop (mkF m 39 #[.val (.ref a1), .val (.ref ac), .val (.int (0 : Int32)), .val (.int (2 : Int32)), .val .null, .unset] [(.ref yq3)]))
  refine OGo.st (fun _ k_ => XS.astore X3.here hx rfl (hb hby own_d_jdk_42_method_149_code_39) rfl rfl (l' := #[.val (.ref a1), .val (.ref ac), .val (.int (0 : Int32)), .val (.int (2 : Int32)), .val .null, .val (.ref yq3)]) rfl k_) ?_
  show OGo p.tables e below _ (T3.setTop (mkF m 41 #[.val (.ref a1), .val (.ref ac), .val (.int (0 : Int32)), .val (.int (2 : Int32)), .val .null, .val (.ref yq3)] []))
  refine OGo.st (fun _ k_ => XS.aloadN X3.here hx rfl (hb hby own_d_jdk_42_method_149_code_41) rfl rfl k_) ?_
  show OGo p.tables e below _ (T3.setTop (mkF m 42 #[.val (.ref a1), .val (.ref ac), .val (.int (0 : Int32)), .val (.int (2 : Int32)), .val .null, .val (.ref yq3)] [(.ref a1)]))
  refine OGo.st (fun _ k_ => XS.aload X3.here hx rfl (hb hby own_d_jdk_42_method_149_code_42) rfl rfl k_) ?_
  show OGo p.tables e below _ (T3.setTop (mkF m 44 #[.val (.ref a1), .val (.ref ac), .val (.int (0 : Int32)), .val (.int (2 : Int32)), .val .null, .val (.ref yq3)] [(.ref yq3), (.ref a1)]))
  refine OGo.st (fun _ k_ => XS.iloadN X3.here hx rfl (hb hby own_d_jdk_42_method_149_code_44) rfl k_) ?_
  show OGo p.tables e below _ (T3.setTop (mkF m 45 #[.val (.ref a1), .val (.ref ac), .val (.int (0 : Int32)), .val (.int (2 : Int32)), .val .null, .val (.ref yq3)] [(.int (2 : Int32)), (.ref yq3), (.ref a1)]))
  obtain ⟨_, _, ⟨T9, Lz9, kz9, nz9⟩, -, X9, ⟨Lc9, hQ9, lz9, yz9, zz9⟩, st9⟩ := Jvm.LawKit.callS X3 hx (y := (⟨"java/lang/StringUTF16", "coderFromArrayLen", "([BI)B"⟩ : MethodName)) hown (mvT hZ (hw _ (List.mem_of_getElem? (i := 27) rfl))) (mvT hZ (hw _ (List.mem_of_getElem? (i := 28) rfl))) (mvT hZ (hw _ (List.mem_of_getElem? (i := 21) rfl))) (mvT hZ (hw _ (List.mem_of_getElem? (i := 29) rfl))) (by decide) (backOf (W := 1) (rm3 l Z a0 hw [] yq3 kq3 fq3 T3.heap n0 (Nat.le_trans Z0 K_8.1) Aq3) hZ (hw _ (List.mem_of_getElem? (i := 29) rfl)) (hw _ (List.mem_of_getElem? (i := 21) rfl)) (by decide) (by decide)) (g := (mkF m 45 #[.val (.ref a1), .val (.ref ac), .val (.int (0 : Int32)), .val (.int (2 : Int32)), .val .null, .val (.ref yq3)] [(.int (2 : Int32)), (.ref yq3), (.ref a1)])) rfl (by rw [hml]; rfl) (argsL := [(.ref yq3), (.int (2 : Int32))]) (rest := [(.ref a1)]) (lenOf own_pd2 rfl) rfl (by show 2 * 0 + _ ≤ _; exact Nat.le_of_eq rfl) (hb hby own_d_jdk_42_method_149_code_45) (fun _ _ => ⟨rfl, rfl, (by decide : 1 + 0 ≤ _), (by decide : 2 + 0 ≤ _)⟩)
  dsimp only [Pt.U, Pt.locs, Pt.cells, Pt.slots] at X9 lz9 yz9 zz9 st9 hQ9
  subst lz9 yz9 zz9
  obtain ⟨rfl, Nq9, ez9⟩ := hQ9
  have N9 := Fr.app N3 Nq9
  refine OGo.st st9 ?_
  show OGo p.tables e below _ (T9.setTop (mkF m 48 #[.val (.ref a1), .val (.ref ac), .val (.int (0 : Int32)), .val (.int (2 : Int32)), .val .null, .val (.ref yq3)] [(.int (0 : Int32)), (.ref a1)]))
  obtain ⟨T10, hz10, X10, ez10, W10, st10⟩ := putFN X9 hx hZ hown (hw _ (List.mem_of_getElem? (i := 30) rfl)) Via.refl ez9 F_6 Ex_4 (Or.inr ⟨(hw _ (List.mem_of_getElem? (i := 31) rfl)), rfl, hnm⟩) (hw _ (List.mem_of_getElem? (i := 5) rfl)) (ty := .byte) (v' := (.int (0 : Int32))) (by decide) rfl rfl (g := (mkF m 48 #[.val (.ref a1), .val (.ref ac), .val (.int (0 : Int32)), .val (.int (2 : Int32)), .val .null, .val (.ref yq3)] [(.int (0 : Int32)), (.ref a1)])) rfl rfl (hb hby own_d_jdk_42_method_149_code_48)
  have Fw10 : Fld Z hz10 a1 "java/lang/String" "coder" "B" (.int (0 : Int32)) := F_6.same W10
  have Ex_11 := Ex_4.wr W10
  have F_12 := F_5.other W10 (Or.inr (slot_ne (Or.inr (hw _ (List.mem_of_getElem? (i := 33) rfl))) (Or.inr (hw _ (List.mem_of_getElem? (i := 31) rfl))) (by decide) (t := (.array .byte)) (t' := .byte) (by decide) (by decide)))
  have Af_13 := Af_7.other W10 ne_ac_a1
  have Af_14 := Aq3.other W10 (Ne.symm ne_a1_yq3)
  have N10 := Fr.snoc X10 N9 g_a1
  have K_15 : Keep h0 hz10 [a1] := K_8.wr W10 (Or.inl (List.mem_of_getElem? (i := 0) rfl))
  refine OGo.st st10 ?_
  show OGo p.tables e below _ (T10.setTop (mkF m 51 #[.val (.ref a1), .val (.ref ac), .val (.int (0 : Int32)), .val (.int (2 : Int32)), .val .null, .val (.ref yq3)] []))
  refine OGo.st (fun _ k_ => XS.aloadN X10.here hx rfl (hb hby own_d_jdk_42_method_149_code_51) rfl rfl k_) ?_
  show OGo p.tables e below _ (T10.setTop (mkF m 52 #[.val (.ref a1), .val (.ref ac), .val (.int (0 : Int32)), .val (.int (2 : Int32)), .val .null, .val (.ref yq3)] [(.ref a1)]))
  refine OGo.st (fun _ k_ => XS.aload X10.here hx rfl (hb hby own_d_jdk_42_method_149_code_52) rfl rfl k_) ?_
  show OGo p.tables e below _ (T10.setTop (mkF m 54 #[.val (.ref a1), .val (.ref ac), .val (.int (0 : Int32)), .val (.int (2 : Int32)), .val .null, .val (.ref yq3)] [(.ref yq3), (.ref a1)]))
  obtain ⟨T16, hz16, X16, ez16, W16, st16⟩ := putF X10 hx hZ hown (host := "") (Or.inl (hw _ (List.mem_of_getElem? (i := 32) rfl))) Via.refl ez10 F_12 Ex_11 (Or.inr ⟨(hw _ (List.mem_of_getElem? (i := 33) rfl)), rfl, hnm⟩) (hw _ (List.mem_of_getElem? (i := 5) rfl)) (ty := (.array .byte)) (by decide) rfl rfl (g := (mkF m 54 #[.val (.ref a1), .val (.ref ac), .val (.int (0 : Int32)), .val (.int (2 : Int32)), .val .null, .val (.ref yq3)] [(.ref yq3), (.ref a1)])) rfl rfl (hb hby own_d_jdk_42_method_149_code_54)
  have Fw16 : Fld Z hz16 a1 "java/lang/String" "value" "[B" (.ref yq3) := F_12.same W16
  have Ex_17 := Ex_11.wr W16
  have Af_18 := Af_13.other W16 ne_ac_a1
  have Af_19 := Af_14.other W16 (Ne.symm ne_a1_yq3)
  have F_20 := Fw10.other W16 (Or.inr (slot_ne (Or.inr (hw _ (List.mem_of_getElem? (i := 31) rfl))) (Or.inr (hw _ (List.mem_of_getElem? (i := 33) rfl))) (by decide) (t := .byte) (t' := (.array .byte)) (by decide) (by decide)))
  have N16 := Fr.snoc X16 N10 g_a1
  have K_21 : Keep h0 hz16 [a1] := K_15.wr W16 (Or.inl (List.mem_of_getElem? (i := 0) rfl))
  refine OGo.st st16 ?_
  show OGo p.tables e below _ (T16.setTop (mkF m 57 #[.val (.ref a1), .val (.ref ac), .val (.int (0 : Int32)), .val (.int (2 : Int32)), .val .null, .val (.ref yq3)] []))
  refine OGo.fin X16 (v := none) (fun _ => rfl) hlk (fun fs hr => X16.returnOut hx Bd.returns (hb hby own_d_jdk_42_method_149_code_57) hr) ?_ (by decide) (by decide)
  show own_Q_rm4 Z a1 ac kc x0 x1 cs h0 n0 _ T16.heap _
  rw [ez16]
  exact ⟨rfl, N16, K_21⟩
theorem own_d_jdk_42_method_149_code_8 : decode jdk_42_method_149_code 8 = .ok (.aload_n 0, 1) := by decide +kernel
theorem own_d_jdk_42_method_149_code_9 : decode jdk_42_method_149_code 9 = .ok (.ldc 7, 2) := by decide +kernel
theorem own_d_jdk_42_method_149_code_11 : decode jdk_42_method_149_code 11 = .ok (.getfield 9, 3) := by decide +kernel
theorem own_d_jdk_42_method_149_code_14 : decode jdk_42_method_149_code 14 = .ok (.putfield 9, 3) := by decide +kernel
theorem own_d_jdk_42_method_149_code_17 : decode jdk_42_method_149_code 17 = .ok (.aload_n 0, 1) := by decide +kernel
theorem own_d_jdk_42_method_149_code_18 : decode jdk_42_method_149_code 18 = .ok (.ldc 7, 2) := by decide +kernel
theorem own_d_jdk_42_method_149_code_20 : decode jdk_42_method_149_code 20 = .ok (.getfield 15, 3) := by decide +kernel
theorem own_d_jdk_42_method_149_code_23 : decode jdk_42_method_149_code 23 = .ok (.putfield 15, 3) := by decide +kernel
theorem own_d_jdk_42_method_149_code_26 : decode jdk_42_method_149_code 26 = .ok (.return_, 1) := by decide +kernel
theorem own_ef_rm5 (m : MethodId) (x0 : Addr) (x1 : Addr) (x2 : Int32) (x3 : Int32) : entryFrame m #[(.ref x0), (.ref x1), (.int x2), (.int x3), .null] 6 = mkF m 0 #[.val (.ref x0), .val (.ref x1), .val (.int x2), .val (.int x3), .val .null, .unset] [] := by first | (simp [entryFrame, mkF, argsToLocals, Value.category]; done) | rfl
def own_Q_rm5 (Z : State) (a1 ac : Addr) (h0 : Heap) (n0 : Nat) (v : Option Value) (h : Heap) (L : List Loc) : Prop := v = none ∧ Fr n0 L ∧ Keep h0 h [a1]
set_option maxRecDepth 65536 in
set_option maxHeartbeats 40000000 in
theorem rm5 (l : Launch) (Z : State) (a0 : Array Value) (hw : ∀ d ∈ tables_1, d.before a0 Z = true) (ws : List Jvm.Cond) (a1 ac : Addr) (h0 : Heap) (n0 : Nat) (Z0 : n0 ≤ h0.size) (E_a1 : Exa Z h0 a1 "java/lang/String") (F_value_a1 : Fld Z h0 a1 "java/lang/String" "value" "[B" .null) (F_coder_a1 : Fld Z h0 a1 "java/lang/String" "coder" "B" (.int (0 : Int32))) (g_a1 : n0 ≤ a1) :
    OMetS l Z own_EL ([a1] : List Addr) (⟨"java/lang/String", "<init>", "([CIILjava/lang/Void;)V"⟩ : MethodName) jdk_42_method_149_code 6 none ws ({ frames := 1, cells := 4, slots := 8, locals := 12 } : Room) #[(.ref a1), (.ref ac), (.int (0 : Int32)), (.int (0 : Int32)), .null] h0 (own_Q_rm5 Z a1 ac h0 n0) := by
  refine MetFree.of_bodySF (plainFor_of_name own_pn1) hisR ?_
  intro p e s m args below meth c s₁ Bd hml0 hP hK
  obtain ⟨rfl, hZ, hh, hCH, hsf⟩ := hP
  have hx := Bd.exec
  have hby := Bd.bytes
  have hml : c.maxLocals = 6 := hml0
  have hown : s.vm.findClass "java/lang/String" = some m.cls := findClass_of_methodNamed Bd.named
  have hnm := (name_of_methodNamed Bd.named Bd.method).1
  have hlk : meth.locks = false := Bd.notSynchronized
  have X0 : Stand p l e ({ frames := 1, cells := 4, slots := 8, locals := 12 } : Room) (s.setVm s.vm) m #[(.ref a1), (.ref ac), (.int (0 : Int32)), (.int (0 : Int32)), .null] below meth c s₁ [] 0 0 := Stand.of_body Bd
  have O0 : OSt Z own_EL s m "java/lang/String" s.vm h0 h0 := ⟨hZ, hown, ⟨h0.size, own_since s _, Nat.le_refl _⟩, CHr.refl hCH⟩
  have hZ := O0.z
  have hown := O0.o
  have e0 : s₁.heap = h0 := by rw [← hh, Bd.state]; rfl
  have N0 := Fr.nil n0
  refine OGo.enter (P := OPostS Z own_EL s (own_Q_rm5 Z a1 ac h0 n0) 4 8) (own_ef_rm5 m a1 ac (0 : Int32) (0 : Int32)) ?_
  show OGo p.tables e below _ (s₁.setTop (mkF m 0 #[.val (.ref a1), .val (.ref ac), .val (.int (0 : Int32)), .val (.int (0 : Int32)), .val .null, .unset] []))
  refine OGo.st (fun _ k_ => XS.aloadN X0.here hx rfl (hb hby own_d_jdk_42_method_149_code_0) rfl rfl k_) ?_
  show OGo p.tables e below _ (s₁.setTop (mkF m 1 #[.val (.ref a1), .val (.ref ac), .val (.int (0 : Int32)), .val (.int (0 : Int32)), .val .null, .unset] [(.ref a1)]))
  obtain ⟨T1, X1, ez1, st1⟩ := initO X0 hx hZ hown (hw _ (List.mem_of_getElem? (i := 15) rfl)) (hw _ (List.mem_of_getElem? (i := 16) rfl)) (hw _ (List.mem_of_getElem? (i := 17) rfl)) e0 (g := (mkF m 1 #[.val (.ref a1), .val (.ref ac), .val (.int (0 : Int32)), .val (.int (0 : Int32)), .val .null, .unset] [(.ref a1)])) rfl (by rw [hml]; rfl) rfl (hb hby own_d_jdk_42_method_149_code_1) (by decide) (W := 0) (by show 2 * 0 + _ ≤ _; exact Nat.le_of_eq rfl) (by decide)
  refine OGo.st st1 ?_
  show OGo p.tables e below _ (T1.setTop (mkF m 4 #[.val (.ref a1), .val (.ref ac), .val (.int (0 : Int32)), .val (.int (0 : Int32)), .val .null, .unset] []))
  refine OGo.st (fun _ k_ => XS.iloadN X1.here hx rfl (hb hby own_d_jdk_42_method_149_code_4) rfl k_) ?_
  show OGo p.tables e below _ (T1.setTop (mkF m 5 #[.val (.ref a1), .val (.ref ac), .val (.int (0 : Int32)), .val (.int (0 : Int32)), .val .null, .unset] [(.int (0 : Int32))]))
  refine OGo.st (fun _ k_ => XS.ifNo X1.here hx rfl (hb hby own_d_jdk_42_method_149_code_5) rfl (XT.i0_ne_f rfl) k_) ?_
  show OGo p.tables e below _ (T1.setTop (mkF m 8 #[.val (.ref a1), .val (.ref ac), .val (.int (0 : Int32)), .val (.int (0 : Int32)), .val .null, .unset] []))
  refine OGo.st (fun _ k_ => XS.aloadN X1.here hx rfl (hb hby own_d_jdk_42_method_149_code_8) rfl rfl k_) ?_
  show OGo p.tables e below _ (T1.setTop (mkF m 9 #[.val (.ref a1), .val (.ref ac), .val (.int (0 : Int32)), .val (.int (0 : Int32)), .val .null, .unset] [(.ref a1)]))
  obtain ⟨lit2, T2, hz2, lb2, lk2, X2, ez2, Ez2, O2, sft2, Le2, Lc2, Lv2, La2, lne2, st2⟩ := own_ldcS X1 hx O0 (hw _ (List.mem_of_getElem? (i := 77) rfl)) (own_wS hw) ez1 (own_EW hw) (List.mem_of_getElem? (i := 0) rfl) ⟨by decide, rfl⟩ (z := 0) (by decide) rfl (g := (mkF m 9 #[.val (.ref a1), .val (.ref ac), .val (.int (0 : Int32)), .val (.int (0 : Int32)), .val .null, .unset] [(.ref a1)])) rfl (hb hby own_d_jdk_42_method_149_code_9) (n := 0) (by decide) (by decide) (by decide) (by decide)
  have Sf3 := sft2 a1 E_a1.lt (hsf a1 (List.mem_of_getElem? (i := 0) rfl))
  have Ex_4 := E_a1.ext Ez2
  have F_5 := F_value_a1.ext Ez2
  have F_6 := F_coder_a1.ext Ez2
  have K_7 : Keep h0 hz2 [a1] := (Keep.refl h0 [a1]).ext Ez2
  have hZ := O2.z
  have hown := O2.o
  refine OGo.st st2 ?_
  show OGo p.tables e below _ (T2.setTop (mkF m 11 #[.val (.ref a1), .val (.ref ac), .val (.int (0 : Int32)), .val (.int (0 : Int32)), .val .null, .unset] [(.ref lit2), (.ref a1)]))
  obtain ⟨T8, X8, ez8, st8⟩ := getF X2 hx hZ hown (host := "") (Or.inl (hw _ (List.mem_of_getElem? (i := 32) rfl))) Via.refl ez2 Lv2 (g := (mkF m 11 #[.val (.ref a1), .val (.ref ac), .val (.int (0 : Int32)), .val (.int (0 : Int32)), .val .null, .unset] [(.ref lit2), (.ref a1)])) rfl rfl (hb hby own_d_jdk_42_method_149_code_11)
  refine OGo.st st8 ?_
  show OGo p.tables e below _ (T8.setTop (mkF m 14 #[.val (.ref a1), .val (.ref ac), .val (.int (0 : Int32)), .val (.int (0 : Int32)), .val .null, .unset] [(.ref lb2), (.ref a1)]))
  obtain ⟨T9, hz9, X9, ez9, W9, st9⟩ := putF X8 hx hZ hown (host := "") (Or.inl (hw _ (List.mem_of_getElem? (i := 32) rfl))) Via.refl ez8 F_5 Ex_4 (Or.inr ⟨(hw _ (List.mem_of_getElem? (i := 33) rfl)), rfl, hnm⟩) (hw _ (List.mem_of_getElem? (i := 5) rfl)) (ty := (.array .byte)) (by decide) rfl rfl (g := (mkF m 14 #[.val (.ref a1), .val (.ref ac), .val (.int (0 : Int32)), .val (.int (0 : Int32)), .val .null, .unset] [(.ref lb2), (.ref a1)])) rfl rfl (hb hby own_d_jdk_42_method_149_code_14)
  have Fw9 : Fld Z hz9 a1 "java/lang/String" "value" "[B" (.ref lb2) := F_5.same W9
  have Ex_10 := Ex_4.wr W9
  have F_11 := F_6.other W9 (Or.inr (slot_ne (Or.inr (hw _ (List.mem_of_getElem? (i := 31) rfl))) (Or.inr (hw _ (List.mem_of_getElem? (i := 33) rfl))) (by decide) (t := .byte) (t' := (.array .byte)) (by decide) (by decide)))
  have Ex_12 := Le2.wr W9
  have F_13 := Lc2.other W9 (Or.inl (Ne.symm (lne2 a1 Sf3).1))
  have F_14 := Lv2.other W9 (Or.inl (Ne.symm (lne2 a1 Sf3).1))
  have O15 := O2.wr W9 Sf3
  have Sf16 := Safe.wr W9 Sf3 O2.r.1 Sf3
  have N9 := Fr.snoc X9 N0 g_a1
  have K_17 : Keep h0 hz9 [a1] := K_7.wr W9 (Or.inl (List.mem_of_getElem? (i := 0) rfl))
  refine OGo.st st9 ?_
  show OGo p.tables e below _ (T9.setTop (mkF m 17 #[.val (.ref a1), .val (.ref ac), .val (.int (0 : Int32)), .val (.int (0 : Int32)), .val .null, .unset] []))
  refine OGo.st (fun _ k_ => XS.aloadN X9.here hx rfl (hb hby own_d_jdk_42_method_149_code_17) rfl rfl k_) ?_
  show OGo p.tables e below _ (T9.setTop (mkF m 18 #[.val (.ref a1), .val (.ref ac), .val (.int (0 : Int32)), .val (.int (0 : Int32)), .val .null, .unset] [(.ref a1)]))
  obtain ⟨lit18, T18, hz18, lb18, lk18, X18, ez18, Ez18, O18, sft18, Le18, Lc18, Lv18, La18, lne18, st18⟩ := own_ldcS X9 hx O15 (hw _ (List.mem_of_getElem? (i := 77) rfl)) (own_wS hw) ez9 (own_EW hw) (List.mem_of_getElem? (i := 0) rfl) ⟨by decide, rfl⟩ (z := 0) (by decide) rfl (g := (mkF m 18 #[.val (.ref a1), .val (.ref ac), .val (.int (0 : Int32)), .val (.int (0 : Int32)), .val .null, .unset] [(.ref a1)])) rfl (hb hby own_d_jdk_42_method_149_code_18) (n := 0) (by decide) (by decide) (by decide) (by decide)
  have Sf19 := sft18 a1 Ex_10.lt Sf16
  have Ex_20 := Ex_10.ext Ez18
  have F_21 := F_11.ext Ez18
  have Ex_22 := Ex_12.ext Ez18
  have F_23 := F_13.ext Ez18
  have F_24 := F_14.ext Ez18
  have F_25 := Fw9.ext Ez18
  have K_26 : Keep h0 hz18 [a1] := K_17.ext Ez18
  have hZ := O18.z
  have hown := O18.o
  refine OGo.st st18 ?_
  show OGo p.tables e below _ (T18.setTop (mkF m 20 #[.val (.ref a1), .val (.ref ac), .val (.int (0 : Int32)), .val (.int (0 : Int32)), .val .null, .unset] [(.ref lit18), (.ref a1)]))
  obtain ⟨T27, X27, ez27, st27⟩ := getF X18 hx hZ hown (host := "") (Or.inl (hw _ (List.mem_of_getElem? (i := 30) rfl))) Via.refl ez18 Lc18 (g := (mkF m 20 #[.val (.ref a1), .val (.ref ac), .val (.int (0 : Int32)), .val (.int (0 : Int32)), .val .null, .unset] [(.ref lit18), (.ref a1)])) rfl rfl (hb hby own_d_jdk_42_method_149_code_20)
  refine OGo.st st27 ?_
  show OGo p.tables e below _ (T27.setTop (mkF m 23 #[.val (.ref a1), .val (.ref ac), .val (.int (0 : Int32)), .val (.int (0 : Int32)), .val .null, .unset] [(.int 0), (.ref a1)]))
  obtain ⟨T28, hz28, X28, ez28, W28, st28⟩ := putFN X27 hx hZ hown (hw _ (List.mem_of_getElem? (i := 30) rfl)) Via.refl ez27 F_21 Ex_20 (Or.inr ⟨(hw _ (List.mem_of_getElem? (i := 31) rfl)), rfl, hnm⟩) (hw _ (List.mem_of_getElem? (i := 5) rfl)) (ty := .byte) (v' := (.int (0 : Int32))) (by decide) rfl rfl (g := (mkF m 23 #[.val (.ref a1), .val (.ref ac), .val (.int (0 : Int32)), .val (.int (0 : Int32)), .val .null, .unset] [(.int 0), (.ref a1)])) rfl rfl (hb hby own_d_jdk_42_method_149_code_23)
  have Fw28 : Fld Z hz28 a1 "java/lang/String" "coder" "B" (.int (0 : Int32)) := F_21.same W28
  have Ex_29 := Ex_20.wr W28
  have Ex_30 := Ex_22.wr W28
  have F_31 := F_23.other W28 (Or.inl (Ne.symm (lne2 a1 Sf3).1))
  have F_32 := F_24.other W28 (Or.inl (Ne.symm (lne2 a1 Sf3).1))
  have F_33 := F_25.other W28 (Or.inr (slot_ne (Or.inr (hw _ (List.mem_of_getElem? (i := 33) rfl))) (Or.inr (hw _ (List.mem_of_getElem? (i := 31) rfl))) (by decide) (t := (.array .byte)) (t' := .byte) (by decide) (by decide)))
  have Ex_34 := Le18.wr W28
  have F_35 := Lc18.other W28 (Or.inl (Ne.symm (lne18 a1 Sf19).1))
  have F_36 := Lv18.other W28 (Or.inl (Ne.symm (lne18 a1 Sf19).1))
  have O37 := O18.wr W28 Sf19
  have Sf38 := Safe.wr W28 Sf19 O18.r.1 Sf19
  have N28 := Fr.snoc X28 N9 g_a1
  have K_39 : Keep h0 hz28 [a1] := K_26.wr W28 (Or.inl (List.mem_of_getElem? (i := 0) rfl))
  refine OGo.st st28 ?_
  show OGo p.tables e below _ (T28.setTop (mkF m 26 #[.val (.ref a1), .val (.ref ac), .val (.int (0 : Int32)), .val (.int (0 : Int32)), .val .null, .unset] []))
  refine OGo.finS X28 ez28 O37 (own_EW hw) hh (v := none) (fun _ => rfl) hlk (fun fs hr => X28.returnOut hx Bd.returns (hb hby own_d_jdk_42_method_149_code_26) hr) ?_ (by decide) (by decide)
  show own_Q_rm5 Z a1 ac h0 n0 _ T28.heap _
  rw [ez28]
  exact ⟨rfl, N28, K_39⟩
theorem own_d_jdk_42_method_3_code_0 : decode jdk_42_method_3_code 0 = .ok (.aload_n 0, 1) := by decide +kernel
theorem own_d_jdk_42_method_3_code_1 : decode jdk_42_method_3_code 1 = .ok (.aload_n 1, 1) := by decide +kernel
theorem own_d_jdk_42_method_3_code_2 : decode jdk_42_method_3_code 2 = .ok (.iconst 0, 1) := by decide +kernel
theorem own_d_jdk_42_method_3_code_3 : decode jdk_42_method_3_code 3 = .ok (.aload_n 1, 1) := by decide +kernel
theorem own_d_jdk_42_method_3_code_4 : decode jdk_42_method_3_code 4 = .ok (.arraylength, 1) := by decide +kernel
theorem own_d_jdk_42_method_3_code_5 : decode jdk_42_method_3_code 5 = .ok (.aconst_null, 1) := by decide +kernel
theorem own_d_jdk_42_method_3_code_6 : decode jdk_42_method_3_code 6 = .ok (.invokespecial 27, 3) := by decide +kernel
theorem own_pd3 : parseMethodDescriptor "([CIILjava/lang/Void;)V" = some ⟨[(.array .char), .int, .int, (.object "java/lang/Void")], none⟩ := by decide +kernel
theorem own_d_jdk_42_method_3_code_9 : decode jdk_42_method_3_code 9 = .ok (.return_, 1) := by decide +kernel
theorem own_ef_rm6 (m : MethodId) (x0 : Addr) (x1 : Addr) : entryFrame m #[(.ref x0), (.ref x1)] 2 = mkF m 0 #[.val (.ref x0), .val (.ref x1)] [] := by first | (simp [entryFrame, mkF, argsToLocals, Value.category]; done) | rfl
def own_Q_rm6 (Z : State) (a1 ac : Addr) (kc : ClassId) (x0 x1 cs : Int32) (h0 : Heap) (n0 : Nat) (v : Option Value) (h : Heap) (L : List Loc) : Prop := v = none ∧ Fr n0 L ∧ Keep h0 h [a1]
set_option maxRecDepth 65536 in
set_option maxHeartbeats 40000000 in
theorem rm6 (l : Launch) (Z : State) (a0 : Array Value) (hw : ∀ d ∈ tables_1, d.before a0 Z = true) (ws : List Jvm.Cond) (a1 ac : Addr) (kc : ClassId) (x0 x1 cs : Int32) (h0 : Heap) (n0 : Nat) (Z0 : n0 ≤ h0.size) (E_a1 : Exa Z h0 a1 "java/lang/String") (F_value_a1 : Fld Z h0 a1 "java/lang/String" "value" "[B" .null) (F_coder_a1 : Fld Z h0 a1 "java/lang/String" "coder" "B" (.int (0 : Int32))) (g_a1 : n0 ≤ a1) (A_ac : Arf Z h0 ac kc .char 2 (own_B x0 x1)) (ne_ac_a1 : ac ≠ a1) (h0_ : ¬ (255 : Int32) < x0) (h1_ : ¬ (255 : Int32) < x1) (S_cs : Sta Z h0 "java/lang/String" "COMPACT_STRINGS" "Z" (.int cs)) (hcs : ¬ cs = 0) :
    OMet l Z (⟨"java/lang/String", "<init>", "([C)V"⟩ : MethodName) jdk_42_method_3_code 2 none ws ({ frames := 3, cells := 1, slots := 2, locals := 52 } : Room) #[(.ref a1), (.ref ac)] h0 (own_Q_rm6 Z a1 ac kc x0 x1 cs h0 n0) := by
  refine MetFree.of_bodySF (plainFor_of_name own_pn1) hisR ?_
  intro p e s m args below meth c s₁ Bd hml0 hP hK
  obtain ⟨rfl, hZ, hh⟩ := hP
  have hx := Bd.exec
  have hby := Bd.bytes
  have hml : c.maxLocals = 2 := hml0
  have hown : s.vm.findClass "java/lang/String" = some m.cls := findClass_of_methodNamed Bd.named
  have hnm := (name_of_methodNamed Bd.named Bd.method).1
  have hlk : meth.locks = false := Bd.notSynchronized
  have X0 : Stand p l e ({ frames := 3, cells := 1, slots := 2, locals := 52 } : Room) s m #[(.ref a1), (.ref ac)] below meth c s₁ [] 0 0 := Stand.of_body Bd
  have e0 : s₁.heap = h0 := by rw [← hh, Bd.state]; rfl
  have N0 := Fr.nil n0
  refine OGo.enter (P := OPost s (own_Q_rm6 Z a1 ac kc x0 x1 cs h0 n0) 1 2) (own_ef_rm6 m a1 ac) ?_
  show OGo p.tables e below _ (s₁.setTop (mkF m 0 #[.val (.ref a1), .val (.ref ac)] []))
  refine OGo.st (fun _ k_ => XS.aloadN X0.here hx rfl (hb hby own_d_jdk_42_method_3_code_0) rfl rfl k_) ?_
  show OGo p.tables e below _ (s₁.setTop (mkF m 1 #[.val (.ref a1), .val (.ref ac)] [(.ref a1)]))
  refine OGo.st (fun _ k_ => XS.aloadN X0.here hx rfl (hb hby own_d_jdk_42_method_3_code_1) rfl rfl k_) ?_
  show OGo p.tables e below _ (s₁.setTop (mkF m 2 #[.val (.ref a1), .val (.ref ac)] [(.ref ac), (.ref a1)]))
  refine OGo.st (fun _ k_ => XS.iconst X0.here hx rfl (hb hby own_d_jdk_42_method_3_code_2) k_) ?_
  show OGo p.tables e below _ (s₁.setTop (mkF m 3 #[.val (.ref a1), .val (.ref ac)] [(.int (0 : Int32)), (.ref ac), (.ref a1)]))
  refine OGo.st (fun _ k_ => XS.aloadN X0.here hx rfl (hb hby own_d_jdk_42_method_3_code_3) rfl rfl k_) ?_
  show OGo p.tables e below _ (s₁.setTop (mkF m 4 #[.val (.ref a1), .val (.ref ac)] [(.ref ac), (.int (0 : Int32)), (.ref ac), (.ref a1)]))
  have qz1 := own_alen X0 hx hZ e0 A_ac (g := (mkF m 4 #[.val (.ref a1), .val (.ref ac)] [(.ref ac), (.int (0 : Int32)), (.ref ac), (.ref a1)])) rfl rfl (hb hby own_d_jdk_42_method_3_code_4)
  refine OGo.st qz1 ?_
  show OGo p.tables e below _ (s₁.setTop (mkF m 5 #[.val (.ref a1), .val (.ref ac)] [(.int (2 : Int32)), (.int (0 : Int32)), (.ref ac), (.ref a1)]))
  refine OGo.st (fun _ k_ => XS.aconstNull X0.here hx rfl (hb hby own_d_jdk_42_method_3_code_5) k_) ?_
  show OGo p.tables e below _ (s₁.setTop (mkF m 6 #[.val (.ref a1), .val (.ref ac)] [.null, (.int (2 : Int32)), (.int (0 : Int32)), (.ref ac), (.ref a1)]))
  obtain ⟨_, _, ⟨T2, Lz2, kz2, nz2⟩, -, X2, ⟨Lc2, hQ2, lz2, yz2, zz2⟩, st2⟩ := X0.specialBack hx (y := (⟨"java/lang/String", "<init>", "([CIILjava/lang/Void;)V"⟩ : MethodName)) rfl hown (mvT hZ (hw _ (List.mem_of_getElem? (i := 11) rfl))) (mvT hZ (hw _ (List.mem_of_getElem? (i := 12) rfl))) (mvT hZ (hw _ (List.mem_of_getElem? (i := 14) rfl))) (by decide) (backOf (W := 0) (rm4 l Z a0 hw [] a1 ac kc x0 x1 cs h0 n0 (Nat.le_trans Z0 (Keep.refl h0 [a1]).1) E_a1 F_value_a1 F_coder_a1 g_a1 A_ac ne_ac_a1 h0_ h1_ S_cs hcs) hZ (hw _ (List.mem_of_getElem? (i := 14) rfl)) (hw _ (List.mem_of_getElem? (i := 6) rfl)) (by decide) (by decide)) (g := (mkF m 6 #[.val (.ref a1), .val (.ref ac)] [.null, (.int (2 : Int32)), (.int (0 : Int32)), (.ref ac), (.ref a1)])) rfl (by rw [hml]; rfl) (Steps.refl _) (a := a1) (argsL := [(.ref ac), (.int (0 : Int32)), (.int (2 : Int32)), .null]) (rest := []) (lenOf own_pd3 rfl) rfl (by show 2 * 0 + _ ≤ _; exact Nat.le_of_eq rfl) (hb hby own_d_jdk_42_method_3_code_6) (fun _ _ => ⟨rfl, e0, (by decide : 0 + 1 ≤ _), (by decide : 0 + 2 ≤ _)⟩)
  dsimp only [Pt.U, Pt.locs, Pt.cells, Pt.slots] at X2 lz2 yz2 zz2 st2 hQ2
  subst lz2 yz2 zz2
  obtain ⟨rfl, Nq2, Kq2⟩ := hQ2
  have N2 := Fr.app N0 Nq2
  have Ex_3 := E_a1.keep Kq2
  have Af_4 := A_ac.keep Kq2 (ninS ne_ac_a1 nin0)
  have K_5 : Keep h0 T2.heap [a1] := (Keep.refl h0 [a1]).trans Kq2 (allS (Or.inl (List.mem_of_getElem? (i := 0) rfl)) all0)
  refine OGo.tr st2 ?_
  show OGo p.tables e below _ (T2.setTop (mkF m 9 #[.val (.ref a1), .val (.ref ac)] []))
  refine OGo.fin X2 (v := none) (fun _ => rfl) hlk (fun fs hr => X2.returnOut hx Bd.returns (hb hby own_d_jdk_42_method_3_code_9) hr) ?_ (by decide) (by decide)
  show own_Q_rm6 Z a1 ac kc x0 x1 cs h0 n0 _ T2.heap _
  skip
  exact ⟨rfl, N2, K_5⟩
theorem own_ef_rm7 (m : MethodId) (x0 : Addr) (x1 : Addr) : entryFrame m #[(.ref x0), (.ref x1)] 2 = mkF m 0 #[.val (.ref x0), .val (.ref x1)] [] := by first | (simp [entryFrame, mkF, argsToLocals, Value.category]; done) | rfl
def own_Q_rm7 (Z : State) (a1 ac : Addr) (kc : ClassId) (f : Nat → Value) (h0 : Heap) (n0 : Nat) (v : Option Value) (h : Heap) (L : List Loc) : Prop := v = none ∧ Fr n0 L ∧ Keep h0 h [a1]
set_option maxRecDepth 65536 in
set_option maxHeartbeats 40000000 in
theorem rm7 (l : Launch) (Z : State) (a0 : Array Value) (hw : ∀ d ∈ tables_1, d.before a0 Z = true) (ws : List Jvm.Cond) (a1 ac : Addr) (kc : ClassId) (f : Nat → Value) (h0 : Heap) (n0 : Nat) (Z0 : n0 ≤ h0.size) (E_a1 : Exa Z h0 a1 "java/lang/String") (F_value_a1 : Fld Z h0 a1 "java/lang/String" "value" "[B" .null) (F_coder_a1 : Fld Z h0 a1 "java/lang/String" "coder" "B" (.int (0 : Int32))) (g_a1 : n0 ≤ a1) (A_ac : Arf Z h0 ac kc .char 0 f) (ne_ac_a1 : ac ≠ a1) :
    OMetS l Z own_EL ([a1] : List Addr) (⟨"java/lang/String", "<init>", "([C)V"⟩ : MethodName) jdk_42_method_3_code 2 none ws ({ frames := 2, cells := 4, slots := 8, locals := 29 } : Room) #[(.ref a1), (.ref ac)] h0 (own_Q_rm7 Z a1 ac kc f h0 n0) := by
  refine MetFree.of_bodySF (plainFor_of_name own_pn1) hisR ?_
  intro p e s m args below meth c s₁ Bd hml0 hP hK
  obtain ⟨rfl, hZ, hh, hCH, hsf⟩ := hP
  have hx := Bd.exec
  have hby := Bd.bytes
  have hml : c.maxLocals = 2 := hml0
  have hown : s.vm.findClass "java/lang/String" = some m.cls := findClass_of_methodNamed Bd.named
  have hnm := (name_of_methodNamed Bd.named Bd.method).1
  have hlk : meth.locks = false := Bd.notSynchronized
  have X0 : Stand p l e ({ frames := 2, cells := 4, slots := 8, locals := 29 } : Room) (s.setVm s.vm) m #[(.ref a1), (.ref ac)] below meth c s₁ [] 0 0 := Stand.of_body Bd
  have O0 : OSt Z own_EL s m "java/lang/String" s.vm h0 h0 := ⟨hZ, hown, ⟨h0.size, own_since s _, Nat.le_refl _⟩, CHr.refl hCH⟩
  have hZ := O0.z
  have hown := O0.o
  have e0 : s₁.heap = h0 := by rw [← hh, Bd.state]; rfl
  have N0 := Fr.nil n0
  refine OGo.enter (P := OPostS Z own_EL s (own_Q_rm7 Z a1 ac kc f h0 n0) 4 8) (own_ef_rm7 m a1 ac) ?_
  show OGo p.tables e below _ (s₁.setTop (mkF m 0 #[.val (.ref a1), .val (.ref ac)] []))
  refine OGo.st (fun _ k_ => XS.aloadN X0.here hx rfl (hb hby own_d_jdk_42_method_3_code_0) rfl rfl k_) ?_
  show OGo p.tables e below _ (s₁.setTop (mkF m 1 #[.val (.ref a1), .val (.ref ac)] [(.ref a1)]))
  refine OGo.st (fun _ k_ => XS.aloadN X0.here hx rfl (hb hby own_d_jdk_42_method_3_code_1) rfl rfl k_) ?_
  show OGo p.tables e below _ (s₁.setTop (mkF m 2 #[.val (.ref a1), .val (.ref ac)] [(.ref ac), (.ref a1)]))
  refine OGo.st (fun _ k_ => XS.iconst X0.here hx rfl (hb hby own_d_jdk_42_method_3_code_2) k_) ?_
  show OGo p.tables e below _ (s₁.setTop (mkF m 3 #[.val (.ref a1), .val (.ref ac)] [(.int (0 : Int32)), (.ref ac), (.ref a1)]))
  refine OGo.st (fun _ k_ => XS.aloadN X0.here hx rfl (hb hby own_d_jdk_42_method_3_code_3) rfl rfl k_) ?_
  show OGo p.tables e below _ (s₁.setTop (mkF m 4 #[.val (.ref a1), .val (.ref ac)] [(.ref ac), (.int (0 : Int32)), (.ref ac), (.ref a1)]))
  have qz1 := own_alen X0 hx hZ e0 A_ac (g := (mkF m 4 #[.val (.ref a1), .val (.ref ac)] [(.ref ac), (.int (0 : Int32)), (.ref ac), (.ref a1)])) rfl rfl (hb hby own_d_jdk_42_method_3_code_4)
  refine OGo.st qz1 ?_
  show OGo p.tables e below _ (s₁.setTop (mkF m 5 #[.val (.ref a1), .val (.ref ac)] [(.int (0 : Int32)), (.int (0 : Int32)), (.ref ac), (.ref a1)]))
  refine OGo.st (fun _ k_ => XS.aconstNull X0.here hx rfl (hb hby own_d_jdk_42_method_3_code_5) k_) ?_
  show OGo p.tables e below _ (s₁.setTop (mkF m 6 #[.val (.ref a1), .val (.ref ac)] [.null, (.int (0 : Int32)), (.int (0 : Int32)), (.ref ac), (.ref a1)]))
  have hsc2 : ∀ x ∈ ([a1] : List Addr), x < h0.size ∧ Safe Z own_EL s.vm h0 x := (allS ⟨E_a1.lt, (hsf a1 (List.mem_of_getElem? (i := 0) rfl))⟩ all0)
  obtain ⟨_, _, ⟨T2, Lz2, kz2, nz2⟩, -, X2, sn2, gn2, ⟨Lc2, hQ2, lz2, yz2, zz2, cr2⟩, st2⟩ := X0.specialBackS hx (y := (⟨"java/lang/String", "<init>", "([CIILjava/lang/Void;)V"⟩ : MethodName)) rfl hown (mvT hZ (hw _ (List.mem_of_getElem? (i := 11) rfl))) (mvT hZ (hw _ (List.mem_of_getElem? (i := 12) rfl))) (mvT hZ (hw _ (List.mem_of_getElem? (i := 14) rfl))) (by decide) (own_backSH (W := 0) (rm5 l Z a0 hw [] a1 ac h0 n0 (Nat.le_trans Z0 (Keep.refl h0 [a1]).1) E_a1 F_value_a1 F_coder_a1 g_a1) hZ (hw _ (List.mem_of_getElem? (i := 14) rfl)) (hw _ (List.mem_of_getElem? (i := 6) rfl)) (by decide) (by decide) (own_EW hw) O0.r.1 hsc2) (g := (mkF m 6 #[.val (.ref a1), .val (.ref ac)] [.null, (.int (0 : Int32)), (.int (0 : Int32)), (.ref ac), (.ref a1)])) rfl (by rw [hml]; rfl) (Steps.refl _) (a := a1) (argsL := [(.ref ac), (.int (0 : Int32)), (.int (0 : Int32)), .null]) (rest := []) (lenOf own_pd3 rfl) rfl (by show 2 * 0 + _ ≤ _; exact Nat.le_of_eq rfl) (hb hby own_d_jdk_42_method_3_code_6) (fun _ _ => ⟨rfl, e0, (by decide : 0 + 4 ≤ _), (by decide : 0 + 8 ≤ _)⟩)
  dsimp only [Pt.U, Pt.locs, Pt.cells, Pt.slots] at X2 sn2 gn2 lz2 yz2 zz2 cr2 st2 hQ2
  subst lz2 yz2 zz2
  have O2 := O0.call sn2 e0 gn2 cr2
  have X2 : Stand p l e ({ frames := 2, cells := 4, slots := 8, locals := 29 } : Room) (s.setVm T2.vm) m #[(.ref a1), (.ref ac)] below meth c T2 _ _ _ := X2
  have hZ := O2.z
  have hown := O2.o
  obtain ⟨rfl, Nq2, Kq2⟩ := hQ2
  have N2 := Fr.app N0 Nq2
  have Ex_3 := E_a1.keep Kq2
  have Af_4 := A_ac.keep Kq2 (ninS ne_ac_a1 nin0)
  have K_5 : Keep h0 T2.heap [a1] := (Keep.refl h0 [a1]).trans Kq2 (allS (Or.inl (List.mem_of_getElem? (i := 0) rfl)) all0)
  refine OGo.tr st2 ?_
  show OGo p.tables e below _ (T2.setTop (mkF m 9 #[.val (.ref a1), .val (.ref ac)] []))
  refine OGo.finS X2 rfl O2 (own_EW hw) hh (v := none) (fun _ => rfl) hlk (fun fs hr => X2.returnOut hx Bd.returns (hb hby own_d_jdk_42_method_3_code_9) hr) ?_ (by decide) (by decide)
  show own_Q_rm7 Z a1 ac kc f h0 n0 _ T2.heap _
  skip
  exact ⟨rfl, N2, K_5⟩
theorem own_d_method_2_code_0 : decode method_2_code 0 = .ok (.iload_n 0, 1) := by decide +kernel
theorem own_d_method_2_code_1 : decode method_2_code 1 = .ok (.iconst 1, 1) := by decide +kernel
theorem own_d_method_2_code_2 : decode method_2_code 2 = .ok (.iand, 1) := by decide +kernel
theorem own_d_method_2_code_3 : decode method_2_code 3 = .ok (.ifCond .eq 5, 3) := by decide +kernel
theorem own_d_method_2_code_8 : decode method_2_code 8 = .ok (.iload_n 0, 1) := by decide +kernel
theorem own_d_method_2_code_9 : decode method_2_code 9 = .ok (.iconst 2, 1) := by decide +kernel
theorem own_d_method_2_code_10 : decode method_2_code 10 = .ok (.iand, 1) := by decide +kernel
theorem own_d_method_2_code_11 : decode method_2_code 11 = .ok (.ifCond .eq 14, 3) := by decide +kernel
theorem own_d_method_2_code_25 : decode method_2_code 25 = .ok (.new 7, 3) := by decide +kernel
theorem own_d_method_2_code_28 : decode method_2_code 28 = .ok (.dup, 1) := by decide +kernel
theorem own_d_method_2_code_29 : decode method_2_code 29 = .ok (.iconst 2, 1) := by decide +kernel
theorem own_d_method_2_code_30 : decode method_2_code 30 = .ok (.newarray .char, 2) := by decide +kernel
theorem own_d_method_2_code_32 : decode method_2_code 32 = .ok (.dup, 1) := by decide +kernel
theorem own_d_method_2_code_33 : decode method_2_code 33 = .ok (.iconst 0, 1) := by decide +kernel
theorem own_d_method_2_code_34 : decode method_2_code 34 = .ok (.iload_n 1, 1) := by decide +kernel
theorem own_d_method_2_code_35 : decode method_2_code 35 = .ok (.sipush 255, 3) := by decide +kernel
theorem own_d_method_2_code_38 : decode method_2_code 38 = .ok (.iand, 1) := by decide +kernel
theorem own_d_method_2_code_39 : decode method_2_code 39 = .ok (.i2c, 1) := by decide +kernel
theorem own_d_method_2_code_40 : decode method_2_code 40 = .ok (.castore, 1) := by decide +kernel
theorem own_d_method_2_code_41 : decode method_2_code 41 = .ok (.dup, 1) := by decide +kernel
theorem own_d_method_2_code_42 : decode method_2_code 42 = .ok (.iconst 1, 1) := by decide +kernel
theorem own_d_method_2_code_43 : decode method_2_code 43 = .ok (.iload_n 2, 1) := by decide +kernel
theorem own_d_method_2_code_44 : decode method_2_code 44 = .ok (.sipush 255, 3) := by decide +kernel
theorem own_d_method_2_code_47 : decode method_2_code 47 = .ok (.iand, 1) := by decide +kernel
theorem own_d_method_2_code_48 : decode method_2_code 48 = .ok (.i2c, 1) := by decide +kernel
theorem own_d_method_2_code_49 : decode method_2_code 49 = .ok (.castore, 1) := by decide +kernel
theorem own_d_method_2_code_50 : decode method_2_code 50 = .ok (.invokespecial 9, 3) := by decide +kernel
theorem own_pd4 : parseMethodDescriptor "([C)V" = some ⟨[(.array .char)], none⟩ := by decide +kernel
theorem own_d_method_2_code_53 : decode method_2_code 53 = .ok (.areturn, 1) := by decide +kernel
theorem own_d_method_2_code_14 : decode method_2_code 14 = .ok (.new 7, 3) := by decide +kernel
theorem own_d_method_2_code_17 : decode method_2_code 17 = .ok (.dup, 1) := by decide +kernel
theorem own_d_method_2_code_18 : decode method_2_code 18 = .ok (.iconst 0, 1) := by decide +kernel
theorem own_d_method_2_code_19 : decode method_2_code 19 = .ok (.newarray .char, 2) := by decide +kernel
theorem own_d_method_2_code_21 : decode method_2_code 21 = .ok (.invokespecial 9, 3) := by decide +kernel
theorem own_d_method_2_code_24 : decode method_2_code 24 = .ok (.areturn, 1) := by decide +kernel
theorem own_d_method_2_code_6 : decode method_2_code 6 = .ok (.aconst_null, 1) := by decide +kernel
theorem own_d_method_2_code_7 : decode method_2_code 7 = .ok (.areturn, 1) := by decide +kernel
theorem own_pn2 : plainName "com/example/formwright/formwright/FailureOwnPinLaw" = true := by first | (simp [plainName, overriddenIn]; done) | decide +kernel
theorem own_ef_rm8 (m : MethodId) (x0 : Int32) (x1 : Int32) (x2 : Int32) : entryFrame m #[(.int x0), (.int x1), (.int x2)] 3 = mkF m 0 #[.val (.int x0), .val (.int x1), .val (.int x2)] [] := by first | (simp [entryFrame, mkF, argsToLocals, Value.category]; done) | rfl
def own_Q_rm8 (Z : State) (p1 p2 p3 cs : Int32) (h0 : Heap) (n0 : Nat) (v : Option Value) (h : Heap) (L : List Loc) : Prop := ∃ r : Value, v = some r ∧ r.isRef = true ∧ Fr n0 L ∧ Keep h0 h []
set_option maxRecDepth 65536 in
set_option maxHeartbeats 40000000 in
theorem rm8 (l : Launch) (Z : State) (a0 : Array Value) (hw : ∀ d ∈ tables_1, d.before a0 Z = true) (ws : List Jvm.Cond) (p1 p2 p3 cs : Int32) (h0 : Heap) (n0 : Nat) (Z0 : n0 ≤ h0.size) (S_cs : Sta Z h0 "java/lang/String" "COMPACT_STRINGS" "Z" (.int cs)) (hcs : ¬ cs = 0) :
    OMetS l Z own_EL ([] : List Addr) (⟨"com/example/formwright/formwright/FailureOwnPinLaw", "draw", "(III)Ljava/lang/String;"⟩ : MethodName) method_2_code 3 (some (.object "java/lang/String")) ws ({ frames := 4, cells := 6, slots := 12, locals := 66 } : Room) #[(.int p1), (.int p2), (.int p3)] h0 (own_Q_rm8 Z p1 p2 p3 cs h0 n0) := by
  refine MetFree.of_bodySF (plainFor_of_name own_pn2) hisR ?_
  intro p e s m args below meth c s₁ Bd hml0 hP hK
  obtain ⟨rfl, hZ, hh, hCH, hsf⟩ := hP
  have hx := Bd.exec
  have hby := Bd.bytes
  have hml : c.maxLocals = 3 := hml0
  have hown : s.vm.findClass "com/example/formwright/formwright/FailureOwnPinLaw" = some m.cls := findClass_of_methodNamed Bd.named
  have hnm := (name_of_methodNamed Bd.named Bd.method).1
  have hlk : meth.locks = false := Bd.notSynchronized
  have X0 : Stand p l e ({ frames := 4, cells := 6, slots := 12, locals := 66 } : Room) (s.setVm s.vm) m #[(.int p1), (.int p2), (.int p3)] below meth c s₁ [] 0 0 := Stand.of_body Bd
  have O0 : OSt Z own_EL s m "com/example/formwright/formwright/FailureOwnPinLaw" s.vm h0 h0 := ⟨hZ, hown, ⟨h0.size, own_since s _, Nat.le_refl _⟩, CHr.refl hCH⟩
  have hZ := O0.z
  have hown := O0.o
  have e0 : s₁.heap = h0 := by rw [← hh, Bd.state]; rfl
  have N0 := Fr.nil n0
  refine OGo.enter (P := OPostS Z own_EL s (own_Q_rm8 Z p1 p2 p3 cs h0 n0) 6 12) (own_ef_rm8 m p1 p2 p3) ?_
  show OGo p.tables e below _ (s₁.setTop (mkF m 0 #[.val (.int p1), .val (.int p2), .val (.int p3)] []))
  refine OGo.st (fun _ k_ => XS.iloadN X0.here hx rfl (hb hby own_d_method_2_code_0) rfl k_) ?_
  show OGo p.tables e below _ (s₁.setTop (mkF m 1 #[.val (.int p1), .val (.int p2), .val (.int p3)] [(.int p1)]))
  refine OGo.st (fun _ k_ => XS.iconst X0.here hx rfl (hb hby own_d_method_2_code_1) k_) ?_
  show OGo p.tables e below _ (s₁.setTop (mkF m 2 #[.val (.int p1), .val (.int p2), .val (.int p3)] [(.int (1 : Int32)), (.int p1)]))
  refine OGo.st (fun _ k_ => XS.iand X0.here hx rfl (hb hby own_d_method_2_code_2) rfl k_) ?_
  show OGo p.tables e below _ (s₁.setTop (mkF m 3 #[.val (.int p1), .val (.int p2), .val (.int p3)] [(.int (p1 &&& (1 : Int32)))]))
  by_cases hc3 : (p1 &&& (1 : Int32)) = 0
  · refine OGo.st (fun _ k_ => XS.ifYes X0.here hx rfl (pc0 := 3) (pc' := 8) rfl (hb hby own_d_method_2_code_3) rfl (XT.i0_eq_t hc3) (by decide) (by decide) k_) ?_
    show OGo p.tables e below _ (s₁.setTop (mkF m 8 #[.val (.int p1), .val (.int p2), .val (.int p3)] []))
    refine OGo.st (fun _ k_ => XS.iloadN X0.here hx rfl (hb hby own_d_method_2_code_8) rfl k_) ?_
    show OGo p.tables e below _ (s₁.setTop (mkF m 9 #[.val (.int p1), .val (.int p2), .val (.int p3)] [(.int p1)]))
    refine OGo.st (fun _ k_ => XS.iconst X0.here hx rfl (hb hby own_d_method_2_code_9) k_) ?_
    show OGo p.tables e below _ (s₁.setTop (mkF m 10 #[.val (.int p1), .val (.int p2), .val (.int p3)] [(.int (2 : Int32)), (.int p1)]))
    refine OGo.st (fun _ k_ => XS.iand X0.here hx rfl (hb hby own_d_method_2_code_10) rfl k_) ?_
    show OGo p.tables e below _ (s₁.setTop (mkF m 11 #[.val (.int p1), .val (.int p2), .val (.int p3)] [(.int (p1 &&& (2 : Int32)))]))
    by_cases hc11 : (p1 &&& (2 : Int32)) = 0
    · refine OGo.st (fun _ k_ => XS.ifYes X0.here hx rfl (pc0 := 11) (pc' := 25) rfl (hb hby own_d_method_2_code_11) rfl (XT.i0_eq_t hc11) (by decide) (by decide) k_) ?_
      show OGo p.tables e below _ (s₁.setTop (mkF m 25 #[.val (.int p1), .val (.int p2), .val (.int p3)] []))
      obtain ⟨T1, hz1, X1, ez1, Ez1, Az1, Dz1, -, st1⟩ := newO X0 hx hZ hown (hw _ (List.mem_of_getElem? (i := 4) rfl)) (hw _ (List.mem_of_getElem? (i := 5) rfl)) (hw _ (List.mem_of_getElem? (i := 6) rfl)) e0 (g := (mkF m 25 #[.val (.int p1), .val (.int p2), .val (.int p3)] [])) rfl (hb hby own_d_method_2_code_25) (by decide) (by decide)
      obtain ⟨bz1, g1⟩ : ∃ z, z = h0.size := ⟨_, rfl⟩
      rw [← g1] at Az1 Dz1 st1
      have g_bz1 : n0 ≤ bz1 := Nat.le_trans (Nat.le_trans Z0 (Keep.refl h0 []).1) (Nat.le_of_eq g1.symm)
      have sz_bz1 : h0.size ≤ bz1 := Nat.le_trans (Keep.refl h0 []).1 (Nat.le_of_eq g1.symm)
      have O2 := O0.ext Ez1
      have K_3 : Keep h0 hz1 [] := (Keep.refl h0 []).ext Ez1
      have Sf4 : Safe Z own_EL s.vm hz1 bz1 := Safe.ext Ez1 O0.r.1 (Safe.new (Nat.le_of_eq g1.symm))
      have F_coder_1 : Fld Z hz1 bz1 "java/lang/String" "coder" "B" (.int (0 : Int32)) := Dz1 (Or.inr (hw _ (List.mem_of_getElem? (i := 31) rfl))) (ty := .byte) (by decide)
      have F_value_1 : Fld Z hz1 bz1 "java/lang/String" "value" "[B" .null := Dz1 (Or.inr (hw _ (List.mem_of_getElem? (i := 33) rfl))) (ty := (.array .byte)) (by decide)
      refine OGo.st st1 ?_
      show OGo p.tables e below _ (T1.setTop (mkF m 28 #[.val (.int p1), .val (.int p2), .val (.int p3)] [(.ref bz1)]))
      refine OGo.st (fun _ k_ => XS.dup X1.here hx rfl (hb hby own_d_method_2_code_28) rfl rfl k_) ?_
      show OGo p.tables e below _ (T1.setTop (mkF m 29 #[.val (.int p1), .val (.int p2), .val (.int p3)] [(.ref bz1), (.ref bz1)]))
      refine OGo.st (fun _ k_ => XS.iconst X1.here hx rfl (hb hby own_d_method_2_code_29) k_) ?_
      show OGo p.tables e below _ (T1.setTop (mkF m 30 #[.val (.int p1), .val (.int p2), .val (.int p3)] [(.int (2 : Int32)), (.ref bz1), (.ref bz1)]))
      obtain ⟨T5, hz5, kz5, X5, ez5, Ez5, Az5, st5⟩ := newP X1 hx hZ (hw _ (List.mem_of_getElem? (i := 7) rfl)) ez1 (g := (mkF m 30 #[.val (.int p1), .val (.int p2), .val (.int p3)] [(.int (2 : Int32)), (.ref bz1), (.ref bz1)])) rfl (hb hby own_d_method_2_code_30) rfl (by decide) (cap := 2) (by decide) (by decide) (by decide) (by decide)
      obtain ⟨bz5, g5⟩ : ∃ z, z = hz1.size := ⟨_, rfl⟩
      rw [← g5] at Az5 st5
      have lt_bz1_bz5 : bz1 < bz5 := Nat.lt_of_lt_of_le Az1.lt (Nat.le_of_eq g5.symm)
      have g_bz5 : n0 ≤ bz5 := Nat.le_trans (Nat.le_trans Z0 K_3.1) (Nat.le_of_eq g5.symm)
      have sz_bz5 : h0.size ≤ bz5 := Nat.le_trans K_3.1 (Nat.le_of_eq g5.symm)
      have Ex_6 := Az1.ext Ez5
      have F_7 := F_coder_1.ext Ez5
      have F_8 := F_value_1.ext Ez5
      have O9 := O2.ext Ez5
      have Sf10 := Safe.ext Ez5 O2.r.1 Sf4
      have K_11 : Keep h0 hz5 [] := K_3.ext Ez5
      have Sf12 : Safe Z own_EL s.vm hz5 bz5 := Safe.ext Ez5 O2.r.1 (Safe.new (Nat.le_of_eq g5.symm))
      have V_bz5 : Arf Z hz5 bz5 kz5 .char (2 : Int32) (fun _ => (.int (0 : Int32))) := own_new Az5 (by decide)
      refine OGo.st st5 ?_
      show OGo p.tables e below _ (T5.setTop (mkF m 32 #[.val (.int p1), .val (.int p2), .val (.int p3)] [(.ref bz5), (.ref bz1), (.ref bz1)]))
      refine OGo.st (fun _ k_ => XS.dup X5.here hx rfl (hb hby own_d_method_2_code_32) rfl rfl k_) ?_
      show OGo p.tables e below _ (T5.setTop (mkF m 33 #[.val (.int p1), .val (.int p2), .val (.int p3)] [(.ref bz5), (.ref bz5), (.ref bz1), (.ref bz1)]))
      refine OGo.st (fun _ k_ => XS.iconst X5.here hx rfl (hb hby own_d_method_2_code_33) k_) ?_
      show OGo p.tables e below _ (T5.setTop (mkF m 34 #[.val (.int p1), .val (.int p2), .val (.int p3)] [(.int (0 : Int32)), (.ref bz5), (.ref bz5), (.ref bz1), (.ref bz1)]))
      refine OGo.st (fun _ k_ => XS.iloadN X5.here hx rfl (hb hby own_d_method_2_code_34) rfl k_) ?_
      show OGo p.tables e below _ (T5.setTop (mkF m 35 #[.val (.int p1), .val (.int p2), .val (.int p3)] [(.int p2), (.int (0 : Int32)), (.ref bz5), (.ref bz5), (.ref bz1), (.ref bz1)]))
      refine OGo.st (fun _ k_ => XS.sipush X5.here hx rfl (hb hby own_d_method_2_code_35) k_) ?_
      show OGo p.tables e below _ (T5.setTop (mkF m 38 #[.val (.int p1), .val (.int p2), .val (.int p3)] [(.int (255 : Int32)), (.int p2), (.int (0 : Int32)), (.ref bz5), (.ref bz5), (.ref bz1), (.ref bz1)]))
      refine OGo.st (fun _ k_ => XS.iand X5.here hx rfl (hb hby own_d_method_2_code_38) rfl k_) ?_
      show OGo p.tables e below _ (T5.setTop (mkF m 39 #[.val (.int p1), .val (.int p2), .val (.int p3)] [(.int (p2 &&& (255 : Int32))), (.int (0 : Int32)), (.ref bz5), (.ref bz5), (.ref bz1), (.ref bz1)]))
      refine OGo.st (fun _ k_ => XS.i2c X5.here hx rfl (hb hby own_d_method_2_code_39) rfl k_) ?_
      show OGo p.tables e below _ (T5.setTop (mkF m 40 #[.val (.int p1), .val (.int p2), .val (.int p3)] [(.int (p2 &&& (255 : Int32)).toUInt32.toUInt16.toUInt32.toInt32), (.int (0 : Int32)), (.ref bz5), (.ref bz5), (.ref bz1), (.ref bz1)]))
      obtain ⟨T13, hz13, X13, ez13, W13, V13, st13⟩ := own_stC X5 hx hZ ez5 V_bz5 (j := (0 : Int32)) (by decide)  (g := (mkF m 40 #[.val (.int p1), .val (.int p2), .val (.int p3)] [(.int (p2 &&& (255 : Int32)).toUInt32.toUInt16.toUInt32.toInt32), (.int (0 : Int32)), (.ref bz5), (.ref bz5), (.ref bz1), (.ref bz1)])) rfl rfl (hb hby own_d_method_2_code_40)
      have Ex_14 := Ex_6.wr W13
      have F_15 := F_7.other W13 (Or.inl (Nat.ne_of_lt lt_bz1_bz5))
      have F_16 := F_8.other W13 (Or.inl (Nat.ne_of_lt lt_bz1_bz5))
      have O17 := O9.wr W13 Sf12
      have Sf18 := Safe.wr W13 Sf12 O9.r.1 Sf10
      have Sf19 := Safe.wr W13 Sf12 O9.r.1 Sf12
      have N13 := Fr.snoc X13 N0 g_bz5
      have K_20 : Keep h0 hz13 [] := K_11.wr W13 (Or.inr sz_bz5)
      refine OGo.st st13 ?_
      show OGo p.tables e below _ (T13.setTop (mkF m 41 #[.val (.int p1), .val (.int p2), .val (.int p3)] [(.ref bz5), (.ref bz1), (.ref bz1)]))
      refine OGo.st (fun _ k_ => XS.dup X13.here hx rfl (hb hby own_d_method_2_code_41) rfl rfl k_) ?_
      show OGo p.tables e below _ (T13.setTop (mkF m 42 #[.val (.int p1), .val (.int p2), .val (.int p3)] [(.ref bz5), (.ref bz5), (.ref bz1), (.ref bz1)]))
      refine OGo.st (fun _ k_ => XS.iconst X13.here hx rfl (hb hby own_d_method_2_code_42) k_) ?_
      show OGo p.tables e below _ (T13.setTop (mkF m 43 #[.val (.int p1), .val (.int p2), .val (.int p3)] [(.int (1 : Int32)), (.ref bz5), (.ref bz5), (.ref bz1), (.ref bz1)]))
      refine OGo.st (fun _ k_ => XS.iloadN X13.here hx rfl (hb hby own_d_method_2_code_43) rfl k_) ?_
      show OGo p.tables e below _ (T13.setTop (mkF m 44 #[.val (.int p1), .val (.int p2), .val (.int p3)] [(.int p3), (.int (1 : Int32)), (.ref bz5), (.ref bz5), (.ref bz1), (.ref bz1)]))
      refine OGo.st (fun _ k_ => XS.sipush X13.here hx rfl (hb hby own_d_method_2_code_44) k_) ?_
      show OGo p.tables e below _ (T13.setTop (mkF m 47 #[.val (.int p1), .val (.int p2), .val (.int p3)] [(.int (255 : Int32)), (.int p3), (.int (1 : Int32)), (.ref bz5), (.ref bz5), (.ref bz1), (.ref bz1)]))
      refine OGo.st (fun _ k_ => XS.iand X13.here hx rfl (hb hby own_d_method_2_code_47) rfl k_) ?_
      show OGo p.tables e below _ (T13.setTop (mkF m 48 #[.val (.int p1), .val (.int p2), .val (.int p3)] [(.int (p3 &&& (255 : Int32))), (.int (1 : Int32)), (.ref bz5), (.ref bz5), (.ref bz1), (.ref bz1)]))
      refine OGo.st (fun _ k_ => XS.i2c X13.here hx rfl (hb hby own_d_method_2_code_48) rfl k_) ?_
      show OGo p.tables e below _ (T13.setTop (mkF m 49 #[.val (.int p1), .val (.int p2), .val (.int p3)] [(.int (p3 &&& (255 : Int32)).toUInt32.toUInt16.toUInt32.toInt32), (.int (1 : Int32)), (.ref bz5), (.ref bz5), (.ref bz1), (.ref bz1)]))
      obtain ⟨T21, hz21, X21, ez21, W21, V21, st21⟩ := own_stC X13 hx hZ ez13 V13 (j := (1 : Int32)) (by decide)  (g := (mkF m 49 #[.val (.int p1), .val (.int p2), .val (.int p3)] [(.int (p3 &&& (255 : Int32)).toUInt32.toUInt16.toUInt32.toInt32), (.int (1 : Int32)), (.ref bz5), (.ref bz5), (.ref bz1), (.ref bz1)])) rfl rfl (hb hby own_d_method_2_code_49)
      have Ex_22 := Ex_14.wr W21
      have F_23 := F_15.other W21 (Or.inl (Nat.ne_of_lt lt_bz1_bz5))
      have F_24 := F_16.other W21 (Or.inl (Nat.ne_of_lt lt_bz1_bz5))
      have O25 := O17.wr W21 Sf19
      have Sf26 := Safe.wr W21 Sf19 O17.r.1 Sf18
      have Sf27 := Safe.wr W21 Sf19 O17.r.1 Sf19
      have N21 := Fr.snoc X21 N13 g_bz5
      have K_28 : Keep h0 hz21 [] := K_20.wr W21 (Or.inr sz_bz5)
      refine OGo.st st21 ?_
      have Af_29 : Arf Z hz21 bz5 kz5 .char (2 : Int32) (own_B (nar .char (p2 &&& (255 : Int32)).toUInt32.toUInt16.toUInt32.toInt32) (nar .char (p3 &&& (255 : Int32)).toUInt32.toUInt16.toUInt32.toInt32)) := V21.congr (fun i hi => (match i, hi with | 0, _ => rfl | 1, _ => rfl | (n_ + 2), q_ => absurd q_ (by show ¬ n_ + 2 < 2; omega)))
      show OGo p.tables e below _ (T21.setTop (mkF m 50 #[.val (.int p1), .val (.int p2), .val (.int p3)] [(.ref bz5), (.ref bz1), (.ref bz1)]))
      obtain ⟨_, _, ⟨T30, Lz30, kz30, nz30⟩, -, X30, ⟨Lc30, hQ30, lz30, yz30, zz30⟩, st30⟩ := X21.specialBack hx (y := (⟨"java/lang/String", "<init>", "([C)V"⟩ : MethodName)) rfl hown (mvT hZ (hw _ (List.mem_of_getElem? (i := 8) rfl))) (mvT hZ (hw _ (List.mem_of_getElem? (i := 9) rfl))) (mvT hZ (hw _ (List.mem_of_getElem? (i := 10) rfl))) (by decide) (backOf (W := 1) (rm6 l Z a0 hw [] bz1 bz5 kz5 (nar .char (p2 &&& (255 : Int32)).toUInt32.toUInt16.toUInt32.toInt32) (nar .char (p3 &&& (255 : Int32)).toUInt32.toUInt16.toUInt32.toInt32) cs hz21 n0 (Nat.le_trans Z0 K_28.1) Ex_22 F_24 F_23 g_bz1 Af_29 (Ne.symm (Nat.ne_of_lt lt_bz1_bz5)) (own_c255 p2) (own_c255 p3) (own_sta_keep S_cs K_28) hcs) hZ (hw _ (List.mem_of_getElem? (i := 10) rfl)) (hw _ (List.mem_of_getElem? (i := 6) rfl)) (by decide) (by decide)) (g := (mkF m 50 #[.val (.int p1), .val (.int p2), .val (.int p3)] [(.ref bz5), (.ref bz1), (.ref bz1)])) rfl (by rw [hml]; rfl) (Steps.refl _) (a := bz1) (argsL := [(.ref bz5)]) (rest := [(.ref bz1)]) (lenOf own_pd4 rfl) rfl (by show 2 * 0 + _ ≤ _; exact Nat.le_of_eq rfl) (hb hby own_d_method_2_code_50) (fun _ _ => ⟨rfl, ez21, (by decide : 2 + 1 ≤ _), (by decide : 6 + 2 ≤ _)⟩)
      dsimp only [Pt.U, Pt.locs, Pt.cells, Pt.slots] at X30 lz30 yz30 zz30 st30 hQ30
      subst lz30 yz30 zz30
      obtain ⟨rfl, Nq30, Kq30⟩ := hQ30
      have N30 := Fr.app N21 Nq30
      have Ex_31 := Ex_22.keep Kq30
      have Af_32 := Af_29.keep Kq30 (ninS (Ne.symm (Nat.ne_of_lt lt_bz1_bz5)) nin0)
      have hsk33 : ∀ x ∈ ([bz1] : List Addr), Safe Z own_EL s.vm hz21 x := (allS Sf26 all0)
      have O33 := O25.keep Kq30 hsk33
      have Sf34 := Safe.keep Kq30 hsk33 O25.r.1 Sf26
      have Sf35 := Safe.keep Kq30 hsk33 O25.r.1 Sf27
      have K_36 : Keep h0 T30.heap [] := K_28.trans Kq30 (allS (Or.inr sz_bz1) all0)
      refine OGo.tr st30 ?_
      show OGo p.tables e below _ (T30.setTop (mkF m 53 #[.val (.int p1), .val (.int p2), .val (.int p3)] [(.ref bz1)]))
      refine OGo.finS X30 rfl O33 (own_EW hw) hh (v := some (.ref bz1)) (fun h => by rw [Bd.returns] at h; cases h) hlk (fun fs hr => X30.areturnOut hx rfl Bd.returns rfl (hb hby own_d_method_2_code_53) hr) ?_ (by decide) (by decide)
      show own_Q_rm8 Z p1 p2 p3 cs h0 n0 _ T30.heap _
      skip
      exact ⟨_, rfl, rfl, N30, K_36⟩
    · refine OGo.st (fun _ k_ => XS.ifNo X0.here hx rfl (hb hby own_d_method_2_code_11) rfl (XT.i0_eq_f hc11) k_) ?_
      show OGo p.tables e below _ (s₁.setTop (mkF m 14 #[.val (.int p1), .val (.int p2), .val (.int p3)] []))
      obtain ⟨T37, hz37, X37, ez37, Ez37, Az37, Dz37, -, st37⟩ := newO X0 hx hZ hown (hw _ (List.mem_of_getElem? (i := 4) rfl)) (hw _ (List.mem_of_getElem? (i := 5) rfl)) (hw _ (List.mem_of_getElem? (i := 6) rfl)) e0 (g := (mkF m 14 #[.val (.int p1), .val (.int p2), .val (.int p3)] [])) rfl (hb hby own_d_method_2_code_14) (by decide) (by decide)
      obtain ⟨bz37, g37⟩ : ∃ z, z = h0.size := ⟨_, rfl⟩
      rw [← g37] at Az37 Dz37 st37
      have g_bz37 : n0 ≤ bz37 := Nat.le_trans (Nat.le_trans Z0 (Keep.refl h0 []).1) (Nat.le_of_eq g37.symm)
      have sz_bz37 : h0.size ≤ bz37 := Nat.le_trans (Keep.refl h0 []).1 (Nat.le_of_eq g37.symm)
      have O38 := O0.ext Ez37
      have K_39 : Keep h0 hz37 [] := (Keep.refl h0 []).ext Ez37
      have Sf40 : Safe Z own_EL s.vm hz37 bz37 := Safe.ext Ez37 O0.r.1 (Safe.new (Nat.le_of_eq g37.symm))
      have F_coder_37 : Fld Z hz37 bz37 "java/lang/String" "coder" "B" (.int (0 : Int32)) := Dz37 (Or.inr (hw _ (List.mem_of_getElem? (i := 31) rfl))) (ty := .byte) (by decide)
      have F_value_37 : Fld Z hz37 bz37 "java/lang/String" "value" "[B" .null := Dz37 (Or.inr (hw _ (List.mem_of_getElem? (i := 33) rfl))) (ty := (.array .byte)) (by decide)
      refine OGo.st st37 ?_
      show OGo p.tables e below _ (T37.setTop (mkF m 17 #[.val (.int p1), .val (.int p2), .val (.int p3)] [(.ref bz37)]))
      refine OGo.st (fun _ k_ => XS.dup X37.here hx rfl (hb hby own_d_method_2_code_17) rfl rfl k_) ?_
      show OGo p.tables e below _ (T37.setTop (mkF m 18 #[.val (.int p1), .val (.int p2), .val (.int p3)] [(.ref bz37), (.ref bz37)]))
      refine OGo.st (fun _ k_ => XS.iconst X37.here hx rfl (hb hby own_d_method_2_code_18) k_) ?_
      show OGo p.tables e below _ (T37.setTop (mkF m 19 #[.val (.int p1), .val (.int p2), .val (.int p3)] [(.int (0 : Int32)), (.ref bz37), (.ref bz37)]))
      obtain ⟨T41, hz41, kz41, X41, ez41, Ez41, Az41, st41⟩ := newP X37 hx hZ (hw _ (List.mem_of_getElem? (i := 7) rfl)) ez37 (g := (mkF m 19 #[.val (.int p1), .val (.int p2), .val (.int p3)] [(.int (0 : Int32)), (.ref bz37), (.ref bz37)])) rfl (hb hby own_d_method_2_code_19) rfl (by decide) (cap := 0) (by decide) (by decide) (by decide) (by decide)
      obtain ⟨bz41, g41⟩ : ∃ z, z = hz37.size := ⟨_, rfl⟩
      rw [← g41] at Az41 st41
      have lt_bz37_bz41 : bz37 < bz41 := Nat.lt_of_lt_of_le Az37.lt (Nat.le_of_eq g41.symm)
      have g_bz41 : n0 ≤ bz41 := Nat.le_trans (Nat.le_trans Z0 K_39.1) (Nat.le_of_eq g41.symm)
      have sz_bz41 : h0.size ≤ bz41 := Nat.le_trans K_39.1 (Nat.le_of_eq g41.symm)
      have Ex_42 := Az37.ext Ez41
      have F_43 := F_coder_37.ext Ez41
      have F_44 := F_value_37.ext Ez41
      have O45 := O38.ext Ez41
      have Sf46 := Safe.ext Ez41 O38.r.1 Sf40
      have K_47 : Keep h0 hz41 [] := K_39.ext Ez41
      have Sf48 : Safe Z own_EL s.vm hz41 bz41 := Safe.ext Ez41 O38.r.1 (Safe.new (Nat.le_of_eq g41.symm))
      have V_bz41 : Arf Z hz41 bz41 kz41 .char (0 : Int32) (fun _ => (.int (0 : Int32))) := own_new Az41 (by decide)
      refine OGo.st st41 ?_
      show OGo p.tables e below _ (T41.setTop (mkF m 21 #[.val (.int p1), .val (.int p2), .val (.int p3)] [(.ref bz41), (.ref bz37), (.ref bz37)]))
      have hsc49 : ∀ x ∈ ([bz37] : List Addr), x < hz41.size ∧ Safe Z own_EL s.vm hz41 x := (allS ⟨Ex_42.lt, Sf46⟩ all0)
      obtain ⟨_, _, ⟨T49, Lz49, kz49, nz49⟩, -, X49, sn49, gn49, ⟨Lc49, hQ49, lz49, yz49, zz49, cr49⟩, st49⟩ := X41.specialBackS hx (y := (⟨"java/lang/String", "<init>", "([C)V"⟩ : MethodName)) rfl hown (mvT hZ (hw _ (List.mem_of_getElem? (i := 8) rfl))) (mvT hZ (hw _ (List.mem_of_getElem? (i := 9) rfl))) (mvT hZ (hw _ (List.mem_of_getElem? (i := 10) rfl))) (by decide) (own_backSH (W := 1) (rm7 l Z a0 hw [] bz37 bz41 kz41 (fun _ => (.int (0 : Int32))) hz41 n0 (Nat.le_trans Z0 K_47.1) Ex_42 F_44 F_43 g_bz37 V_bz41 (Ne.symm (Nat.ne_of_lt lt_bz37_bz41))) hZ (hw _ (List.mem_of_getElem? (i := 10) rfl)) (hw _ (List.mem_of_getElem? (i := 6) rfl)) (by decide) (by decide) (own_EW hw) O45.r.1 hsc49) (g := (mkF m 21 #[.val (.int p1), .val (.int p2), .val (.int p3)] [(.ref bz41), (.ref bz37), (.ref bz37)])) rfl (by rw [hml]; rfl) (Steps.refl _) (a := bz37) (argsL := [(.ref bz41)]) (rest := [(.ref bz37)]) (lenOf own_pd4 rfl) rfl (by show 2 * 0 + _ ≤ _; exact Nat.le_of_eq rfl) (hb hby own_d_method_2_code_21) (fun _ _ => ⟨rfl, ez41, (by decide : 2 + 4 ≤ _), (by decide : 4 + 8 ≤ _)⟩)
      dsimp only [Pt.U, Pt.locs, Pt.cells, Pt.slots] at X49 sn49 gn49 lz49 yz49 zz49 cr49 st49 hQ49
      subst lz49 yz49 zz49
      have O49 := O45.call sn49 ez41 gn49 cr49
      have X49 : Stand p l e ({ frames := 4, cells := 6, slots := 12, locals := 66 } : Room) (s.setVm T49.vm) m #[(.int p1), (.int p2), (.int p3)] below meth c T49 _ _ _ := X49
      have hZ := O49.z
      have hown := O49.o
      obtain ⟨rfl, Nq49, Kq49⟩ := hQ49
      have N49 := Fr.app N0 Nq49
      have Ex_50 := Ex_42.keep Kq49
      have Af_51 := V_bz41.keep Kq49 (ninS (Ne.symm (Nat.ne_of_lt lt_bz37_bz41)) nin0)
      have K_52 : Keep h0 T49.heap [] := K_47.trans Kq49 (allS (Or.inr sz_bz37) all0)
      refine OGo.tr st49 ?_
      show OGo p.tables e below _ (T49.setTop (mkF m 24 #[.val (.int p1), .val (.int p2), .val (.int p3)] [(.ref bz37)]))
      refine OGo.finS X49 rfl O49 (own_EW hw) hh (v := some (.ref bz37)) (fun h => by rw [Bd.returns] at h; cases h) hlk (fun fs hr => X49.areturnOut hx rfl Bd.returns rfl (hb hby own_d_method_2_code_24) hr) ?_ (by decide) (by decide)
      show own_Q_rm8 Z p1 p2 p3 cs h0 n0 _ T49.heap _
      skip
      exact ⟨_, rfl, rfl, N49, K_52⟩
  · refine OGo.st (fun _ k_ => XS.ifNo X0.here hx rfl (hb hby own_d_method_2_code_3) rfl (XT.i0_eq_f hc3) k_) ?_
    show OGo p.tables e below _ (s₁.setTop (mkF m 6 #[.val (.int p1), .val (.int p2), .val (.int p3)] []))
    refine OGo.st (fun _ k_ => XS.aconstNull X0.here hx rfl (hb hby own_d_method_2_code_6) k_) ?_
    show OGo p.tables e below _ (s₁.setTop (mkF m 7 #[.val (.int p1), .val (.int p2), .val (.int p3)] [.null]))
    refine OGo.finS X0 e0 O0 (own_EW hw) hh (v := some .null) (fun h => by rw [Bd.returns] at h; cases h) hlk (fun fs hr => X0.areturnOut hx rfl Bd.returns rfl (hb hby own_d_method_2_code_7) hr) ?_ (by decide) (by decide)
    show own_Q_rm8 Z p1 p2 p3 cs h0 n0 _ s₁.heap _
    rw [e0]
    exact ⟨_, rfl, rfl, N0, (Keep.refl h0 [])⟩
theorem own_d_jdk_30_method_1_code_0 : decode jdk_30_method_1_code 0 = .ok (.aload_n 0, 1) := by decide +kernel
theorem own_d_jdk_30_method_1_code_1 : decode jdk_30_method_1_code 1 = .ok (.invokespecial 1, 3) := by decide +kernel
theorem own_d_jdk_30_method_1_code_4 : decode jdk_30_method_1_code 4 = .ok (.return_, 1) := by decide +kernel
theorem own_pn3 : plainName "java/lang/Record" = true := by first | (simp [plainName, overriddenIn]; done) | decide +kernel
theorem own_ef_rm9 (m : MethodId) (x0 : Addr) : entryFrame m #[(.ref x0)] 1 = mkF m 0 #[.val (.ref x0)] [] := by first | (simp [entryFrame, mkF, argsToLocals, Value.category]; done) | rfl
def own_Q_rm9 (Z : State) (a1 : Addr) (h0 : Heap) (n0 : Nat) (v : Option Value) (h : Heap) (L : List Loc) : Prop := v = none ∧ Fr n0 L ∧ h = h0
set_option maxRecDepth 65536 in
set_option maxHeartbeats 40000000 in
theorem rm9 (l : Launch) (Z : State) (a0 : Array Value) (hw : ∀ d ∈ tables_1, d.before a0 Z = true) (ws : List Jvm.Cond) (a1 : Addr) (h0 : Heap) (n0 : Nat) (Z0 : n0 ≤ h0.size)  :
    OMet l Z (⟨"java/lang/Record", "<init>", "()V"⟩ : MethodName) jdk_30_method_1_code 1 none ws ({ frames := 1, cells := 0, slots := 0, locals := 12 } : Room) #[(.ref a1)] h0 (own_Q_rm9 Z a1 h0 n0) := by
  refine MetFree.of_bodySF (plainFor_of_name own_pn3) hisR ?_
  intro p e s m args below meth c s₁ Bd hml0 hP hK
  obtain ⟨rfl, hZ, hh⟩ := hP
  have hx := Bd.exec
  have hby := Bd.bytes
  have hml : c.maxLocals = 1 := hml0
  have hown : s.vm.findClass "java/lang/Record" = some m.cls := findClass_of_methodNamed Bd.named
  have hnm := (name_of_methodNamed Bd.named Bd.method).1
  have hlk : meth.locks = false := Bd.notSynchronized
  have X0 : Stand p l e ({ frames := 1, cells := 0, slots := 0, locals := 12 } : Room) s m #[(.ref a1)] below meth c s₁ [] 0 0 := Stand.of_body Bd
  have e0 : s₁.heap = h0 := by rw [← hh, Bd.state]; rfl
  have N0 := Fr.nil n0
  refine OGo.enter (P := OPost s (own_Q_rm9 Z a1 h0 n0) 0 0) (own_ef_rm9 m a1) ?_
  show OGo p.tables e below _ (s₁.setTop (mkF m 0 #[.val (.ref a1)] []))
  refine OGo.st (fun _ k_ => XS.aloadN X0.here hx rfl (hb hby own_d_jdk_30_method_1_code_0) rfl rfl k_) ?_
  show OGo p.tables e below _ (s₁.setTop (mkF m 1 #[.val (.ref a1)] [(.ref a1)]))
  obtain ⟨T1, X1, ez1, st1⟩ := initO X0 hx hZ hown (hw _ (List.mem_of_getElem? (i := 48) rfl)) (hw _ (List.mem_of_getElem? (i := 16) rfl)) (hw _ (List.mem_of_getElem? (i := 17) rfl)) e0 (g := (mkF m 1 #[.val (.ref a1)] [(.ref a1)])) rfl (by rw [hml]; rfl) rfl (hb hby own_d_jdk_30_method_1_code_1) (by decide) (W := 0) (by show 2 * 0 + _ ≤ _; exact Nat.le_of_eq rfl) (by decide)
  refine OGo.st st1 ?_
  show OGo p.tables e below _ (T1.setTop (mkF m 4 #[.val (.ref a1)] []))
  refine OGo.fin X1 (v := none) (fun _ => rfl) hlk (fun fs hr => X1.returnOut hx Bd.returns (hb hby own_d_jdk_30_method_1_code_4) hr) ?_ (by decide) (by decide)
  show own_Q_rm9 Z a1 h0 n0 _ T1.heap _
  rw [ez1]
  exact ⟨rfl, N0, rfl⟩
theorem own_d_prog_13_method_1_code_0 : decode prog_13_method_1_code 0 = .ok (.aload_n 0, 1) := by decide +kernel
theorem own_d_prog_13_method_1_code_1 : decode prog_13_method_1_code 1 = .ok (.invokespecial 1, 3) := by decide +kernel
theorem own_pd5 : parseMethodDescriptor "()V" = some ⟨[], none⟩ := by decide +kernel
theorem own_d_prog_13_method_1_code_4 : decode prog_13_method_1_code 4 = .ok (.aload_n 0, 1) := by decide +kernel
theorem own_d_prog_13_method_1_code_5 : decode prog_13_method_1_code 5 = .ok (.aload_n 1, 1) := by decide +kernel
theorem own_d_prog_13_method_1_code_6 : decode prog_13_method_1_code 6 = .ok (.putfield 7, 3) := by decide +kernel
theorem own_d_prog_13_method_1_code_9 : decode prog_13_method_1_code 9 = .ok (.aload_n 0, 1) := by decide +kernel
theorem own_d_prog_13_method_1_code_10 : decode prog_13_method_1_code 10 = .ok (.aload_n 2, 1) := by decide +kernel
theorem own_d_prog_13_method_1_code_11 : decode prog_13_method_1_code 11 = .ok (.putfield 13, 3) := by decide +kernel
theorem own_d_prog_13_method_1_code_14 : decode prog_13_method_1_code 14 = .ok (.aload_n 0, 1) := by decide +kernel
theorem own_d_prog_13_method_1_code_15 : decode prog_13_method_1_code 15 = .ok (.aload_n 3, 1) := by decide +kernel
theorem own_d_prog_13_method_1_code_16 : decode prog_13_method_1_code 16 = .ok (.putfield 17, 3) := by decide +kernel
theorem own_d_prog_13_method_1_code_19 : decode prog_13_method_1_code 19 = .ok (.aload_n 0, 1) := by decide +kernel
theorem own_d_prog_13_method_1_code_20 : decode prog_13_method_1_code 20 = .ok (.aload 4, 2) := by decide +kernel
theorem own_d_prog_13_method_1_code_22 : decode prog_13_method_1_code 22 = .ok (.putfield 21, 3) := by decide +kernel
theorem own_d_prog_13_method_1_code_25 : decode prog_13_method_1_code 25 = .ok (.return_, 1) := by decide +kernel
theorem own_pn4 : plainName "com/example/formwright/formwright/Failure" = true := by first | (simp [plainName, overriddenIn]; done) | decide +kernel
theorem own_ef_rm10 (m : MethodId) (x0 : Addr) (x1 : Value) (x2 : Value) (hr1 : x1.isRef = true) (hr2 : x2.isRef = true) : entryFrame m #[(.ref x0), x1, .null, .null, x2] 5 = mkF m 0 #[.val (.ref x0), .val x1, .val .null, .val .null, .val x2] [] := by rcases ref_cases hr1 with rfl | ⟨_, rfl⟩ <;> rcases ref_cases hr2 with rfl | ⟨_, rfl⟩ <;> first | rfl | (simp [entryFrame, mkF, argsToLocals, Value.category]; done)
def own_Q_rm10 (Z : State) (a1 : Addr) (r1 r2 : Value) (h0 : Heap) (n0 : Nat) (v : Option Value) (h : Heap) (L : List Loc) : Prop := v = none ∧ Fr n0 L ∧ Keep h0 h [a1] ∧ Fld Z h a1 "com/example/formwright/formwright/Failure" "rule" "Ljava/lang/String;" r1 ∧ Fld Z h a1 "com/example/formwright/formwright/Failure" "message" "Lcom/example/formwright/formwright/Message;" .null ∧ Fld Z h a1 "com/example/formwright/formwright/Failure" "argument" "Ljava/lang/Object;" .null ∧ Fld Z h a1 "com/example/formwright/formwright/Failure" "text" "Ljava/lang/String;" r2
set_option maxRecDepth 65536 in
set_option maxHeartbeats 40000000 in
theorem rm10 (l : Launch) (Z : State) (a0 : Array Value) (hw : ∀ d ∈ tables_1, d.before a0 Z = true) (ws : List Jvm.Cond) (a1 : Addr) (r1 r2 : Value) (h0 : Heap) (n0 : Nat) (Z0 : n0 ≤ h0.size) (hr1 : r1.isRef = true) (hr2 : r2.isRef = true) (E_a1 : Exa Z h0 a1 "com/example/formwright/formwright/Failure") (F_rule_a1 : Fld Z h0 a1 "com/example/formwright/formwright/Failure" "rule" "Ljava/lang/String;" .null) (F_message_a1 : Fld Z h0 a1 "com/example/formwright/formwright/Failure" "message" "Lcom/example/formwright/formwright/Message;" .null) (F_argument_a1 : Fld Z h0 a1 "com/example/formwright/formwright/Failure" "argument" "Ljava/lang/Object;" .null) (F_text_a1 : Fld Z h0 a1 "com/example/formwright/formwright/Failure" "text" "Ljava/lang/String;" .null) (g_a1 : n0 ≤ a1) :
    OMet l Z (⟨"com/example/formwright/formwright/Failure", "<init>", "(Ljava/lang/String;Lcom/example/formwright/formwright/Message;Ljava/lang/Object;Ljava/lang/String;)V"⟩ : MethodName) prog_13_method_1_code 5 none ws ({ frames := 2, cells := 0, slots := 0, locals := 24 } : Room) #[(.ref a1), r1, .null, .null, r2] h0 (own_Q_rm10 Z a1 r1 r2 h0 n0) := by
  refine MetFree.of_bodySF (plainFor_of_name own_pn4) hisR ?_
  intro p e s m args below meth c s₁ Bd hml0 hP hK
  obtain ⟨rfl, hZ, hh⟩ := hP
  have hx := Bd.exec
  have hby := Bd.bytes
  have hml : c.maxLocals = 5 := hml0
  have hown : s.vm.findClass "com/example/formwright/formwright/Failure" = some m.cls := findClass_of_methodNamed Bd.named
  have hnm := (name_of_methodNamed Bd.named Bd.method).1
  have hlk : meth.locks = false := Bd.notSynchronized
  have X0 : Stand p l e ({ frames := 2, cells := 0, slots := 0, locals := 24 } : Room) s m #[(.ref a1), r1, .null, .null, r2] below meth c s₁ [] 0 0 := Stand.of_body Bd
  have e0 : s₁.heap = h0 := by rw [← hh, Bd.state]; rfl
  have N0 := Fr.nil n0
  refine OGo.enter (P := OPost s (own_Q_rm10 Z a1 r1 r2 h0 n0) 0 0) (own_ef_rm10 m a1 r1 r2 hr1 hr2) ?_
  show OGo p.tables e below _ (s₁.setTop (mkF m 0 #[.val (.ref a1), .val r1, .val .null, .val .null, .val r2] []))
  refine OGo.st (fun _ k_ => XS.aloadN X0.here hx rfl (hb hby own_d_prog_13_method_1_code_0) rfl rfl k_) ?_
  show OGo p.tables e below _ (s₁.setTop (mkF m 1 #[.val (.ref a1), .val r1, .val .null, .val .null, .val r2] [(.ref a1)]))
  obtain ⟨_, _, ⟨T1, Lz1, kz1, nz1⟩, -, X1, ⟨Lc1, hQ1, lz1, yz1, zz1⟩, st1⟩ := X0.specialBack hx (y := (⟨"java/lang/Record", "<init>", "()V"⟩ : MethodName)) rfl hown (mvT hZ (hw _ (List.mem_of_getElem? (i := 43) rfl))) (mvT hZ (hw _ (List.mem_of_getElem? (i := 44) rfl))) (mvT hZ (hw _ (List.mem_of_getElem? (i := 47) rfl))) (by decide) (backOf (W := 0) (rm9 l Z a0 hw [] a1 h0 n0 (Nat.le_trans Z0 (Keep.refl h0 [a1]).1) ) hZ (hw _ (List.mem_of_getElem? (i := 47) rfl)) (hw _ (List.mem_of_getElem? (i := 46) rfl)) (by decide) (by decide)) (g := (mkF m 1 #[.val (.ref a1), .val r1, .val .null, .val .null, .val r2] [(.ref a1)])) rfl (by rw [hml]; rfl) (Steps.refl _) (a := a1) (argsL := []) (rest := []) (lenOf own_pd5 rfl) rfl (by show 2 * 0 + _ ≤ _; exact Nat.le_of_eq rfl) (hb hby own_d_prog_13_method_1_code_1) (fun _ _ => ⟨rfl, e0, (by decide : 0 + 0 ≤ _), (by decide : 0 + 0 ≤ _)⟩)
  dsimp only [Pt.U, Pt.locs, Pt.cells, Pt.slots] at X1 lz1 yz1 zz1 st1 hQ1
  subst lz1 yz1 zz1
  obtain ⟨rfl, Nq1, ez1⟩ := hQ1
  have N1 := Fr.app N0 Nq1
  refine OGo.tr st1 ?_
  show OGo p.tables e below _ (T1.setTop (mkF m 4 #[.val (.ref a1), .val r1, .val .null, .val .null, .val r2] []))
  refine OGo.st (fun _ k_ => XS.aloadN X1.here hx rfl (hb hby own_d_prog_13_method_1_code_4) rfl rfl k_) ?_
  show OGo p.tables e below _ (T1.setTop (mkF m 5 #[.val (.ref a1), .val r1, .val .null, .val .null, .val r2] [(.ref a1)]))
  refine OGo.st (fun _ k_ => XS.aloadN X1.here hx rfl (hb hby own_d_prog_13_method_1_code_5) rfl hr1 k_) ?_
  show OGo p.tables e below _ (T1.setTop (mkF m 6 #[.val (.ref a1), .val r1, .val .null, .val .null, .val r2] [r1, (.ref a1)]))
  obtain ⟨T2, hz2, X2, ez2, W2, st2⟩ := putF X1 hx hZ hown (host := "") (Or.inl (hw _ (List.mem_of_getElem? (i := 49) rfl))) Via.refl ez1 F_rule_a1 E_a1 (Or.inr ⟨(hw _ (List.mem_of_getElem? (i := 50) rfl)), rfl, hnm⟩) (hw _ (List.mem_of_getElem? (i := 39) rfl)) (ty := (.object "java/lang/String")) (by decide) (own_narrow hr1) (own_fits hr1) (g := (mkF m 6 #[.val (.ref a1), .val r1, .val .null, .val .null, .val r2] [r1, (.ref a1)])) rfl rfl (hb hby own_d_prog_13_method_1_code_6)
  have Fw2 : Fld Z hz2 a1 "com/example/formwright/formwright/Failure" "rule" "Ljava/lang/String;" r1 := F_rule_a1.same W2
  have Ex_3 := E_a1.wr W2
  have F_4 := F_message_a1.other W2 (Or.inr (slot_ne (Or.inr (hw _ (List.mem_of_getElem? (i := 52) rfl))) (Or.inr (hw _ (List.mem_of_getElem? (i := 50) rfl))) (by decide) (t := (.object "com/example/formwright/formwright/Message")) (t' := (.object "java/lang/String")) (by decide) (by decide)))
  have F_5 := F_argument_a1.other W2 (Or.inr (slot_ne (Or.inr (hw _ (List.mem_of_getElem? (i := 54) rfl))) (Or.inr (hw _ (List.mem_of_getElem? (i := 50) rfl))) (by decide) (t := (.object "java/lang/Object")) (t' := (.object "java/lang/String")) (by decide) (by decide)))
  have F_6 := F_text_a1.other W2 (Or.inr (slot_ne (Or.inr (hw _ (List.mem_of_getElem? (i := 56) rfl))) (Or.inr (hw _ (List.mem_of_getElem? (i := 50) rfl))) (by decide) (t := (.object "java/lang/String")) (t' := (.object "java/lang/String")) (by decide) (by decide)))
  have N2 := Fr.snoc X2 N1 g_a1
  have K_7 : Keep h0 hz2 [a1] := (Keep.refl h0 [a1]).wr W2 (Or.inl (List.mem_of_getElem? (i := 0) rfl))
  refine OGo.st st2 ?_
  show OGo p.tables e below _ (T2.setTop (mkF m 9 #[.val (.ref a1), .val r1, .val .null, .val .null, .val r2] []))
  refine OGo.st (fun _ k_ => XS.aloadN X2.here hx rfl (hb hby own_d_prog_13_method_1_code_9) rfl rfl k_) ?_
  show OGo p.tables e below _ (T2.setTop (mkF m 10 #[.val (.ref a1), .val r1, .val .null, .val .null, .val r2] [(.ref a1)]))
  refine OGo.st (fun _ k_ => XS.aloadN X2.here hx rfl (hb hby own_d_prog_13_method_1_code_10) rfl rfl k_) ?_
  show OGo p.tables e below _ (T2.setTop (mkF m 11 #[.val (.ref a1), .val r1, .val .null, .val .null, .val r2] [.null, (.ref a1)]))
  obtain ⟨T8, hz8, X8, ez8, W8, st8⟩ := putF X2 hx hZ hown (host := "") (Or.inl (hw _ (List.mem_of_getElem? (i := 51) rfl))) Via.refl ez2 F_4 Ex_3 (Or.inr ⟨(hw _ (List.mem_of_getElem? (i := 52) rfl)), rfl, hnm⟩) (hw _ (List.mem_of_getElem? (i := 39) rfl)) (ty := (.object "com/example/formwright/formwright/Message")) (by decide) rfl rfl (g := (mkF m 11 #[.val (.ref a1), .val r1, .val .null, .val .null, .val r2] [.null, (.ref a1)])) rfl rfl (hb hby own_d_prog_13_method_1_code_11)
  have Fw8 : Fld Z hz8 a1 "com/example/formwright/formwright/Failure" "message" "Lcom/example/formwright/formwright/Message;" .null := F_4.same W8
  have Ex_9 := Ex_3.wr W8
  have F_10 := F_5.other W8 (Or.inr (slot_ne (Or.inr (hw _ (List.mem_of_getElem? (i := 54) rfl))) (Or.inr (hw _ (List.mem_of_getElem? (i := 52) rfl))) (by decide) (t := (.object "java/lang/Object")) (t' := (.object "com/example/formwright/formwright/Message")) (by decide) (by decide)))
  have F_11 := F_6.other W8 (Or.inr (slot_ne (Or.inr (hw _ (List.mem_of_getElem? (i := 56) rfl))) (Or.inr (hw _ (List.mem_of_getElem? (i := 52) rfl))) (by decide) (t := (.object "java/lang/String")) (t' := (.object "com/example/formwright/formwright/Message")) (by decide) (by decide)))
  have F_12 := Fw2.other W8 (Or.inr (slot_ne (Or.inr (hw _ (List.mem_of_getElem? (i := 50) rfl))) (Or.inr (hw _ (List.mem_of_getElem? (i := 52) rfl))) (by decide) (t := (.object "java/lang/String")) (t' := (.object "com/example/formwright/formwright/Message")) (by decide) (by decide)))
  have N8 := Fr.snoc X8 N2 g_a1
  have K_13 : Keep h0 hz8 [a1] := K_7.wr W8 (Or.inl (List.mem_of_getElem? (i := 0) rfl))
  refine OGo.st st8 ?_
  show OGo p.tables e below _ (T8.setTop (mkF m 14 #[.val (.ref a1), .val r1, .val .null, .val .null, .val r2] []))
  refine OGo.st (fun _ k_ => XS.aloadN X8.here hx rfl (hb hby own_d_prog_13_method_1_code_14) rfl rfl k_) ?_
  show OGo p.tables e below _ (T8.setTop (mkF m 15 #[.val (.ref a1), .val r1, .val .null, .val .null, .val r2] [(.ref a1)]))
  refine OGo.st (fun _ k_ => XS.aloadN X8.here hx rfl (hb hby own_d_prog_13_method_1_code_15) rfl rfl k_) ?_
  show OGo p.tables e below _ (T8.setTop (mkF m 16 #[.val (.ref a1), .val r1, .val .null, .val .null, .val r2] [.null, (.ref a1)]))
  obtain ⟨T14, hz14, X14, ez14, W14, st14⟩ := putF X8 hx hZ hown (host := "") (Or.inl (hw _ (List.mem_of_getElem? (i := 53) rfl))) Via.refl ez8 F_10 Ex_9 (Or.inr ⟨(hw _ (List.mem_of_getElem? (i := 54) rfl)), rfl, hnm⟩) (hw _ (List.mem_of_getElem? (i := 39) rfl)) (ty := (.object "java/lang/Object")) (by decide) rfl rfl (g := (mkF m 16 #[.val (.ref a1), .val r1, .val .null, .val .null, .val r2] [.null, (.ref a1)])) rfl rfl (hb hby own_d_prog_13_method_1_code_16)
  have Fw14 : Fld Z hz14 a1 "com/example/formwright/formwright/Failure" "argument" "Ljava/lang/Object;" .null := F_10.same W14
  have Ex_15 := Ex_9.wr W14
  have F_16 := F_11.other W14 (Or.inr (slot_ne (Or.inr (hw _ (List.mem_of_getElem? (i := 56) rfl))) (Or.inr (hw _ (List.mem_of_getElem? (i := 54) rfl))) (by decide) (t := (.object "java/lang/String")) (t' := (.object "java/lang/Object")) (by decide) (by decide)))
  have F_17 := F_12.other W14 (Or.inr (slot_ne (Or.inr (hw _ (List.mem_of_getElem? (i := 50) rfl))) (Or.inr (hw _ (List.mem_of_getElem? (i := 54) rfl))) (by decide) (t := (.object "java/lang/String")) (t' := (.object "java/lang/Object")) (by decide) (by decide)))
  have F_18 := Fw8.other W14 (Or.inr (slot_ne (Or.inr (hw _ (List.mem_of_getElem? (i := 52) rfl))) (Or.inr (hw _ (List.mem_of_getElem? (i := 54) rfl))) (by decide) (t := (.object "com/example/formwright/formwright/Message")) (t' := (.object "java/lang/Object")) (by decide) (by decide)))
  have N14 := Fr.snoc X14 N8 g_a1
  have K_19 : Keep h0 hz14 [a1] := K_13.wr W14 (Or.inl (List.mem_of_getElem? (i := 0) rfl))
  refine OGo.st st14 ?_
  show OGo p.tables e below _ (T14.setTop (mkF m 19 #[.val (.ref a1), .val r1, .val .null, .val .null, .val r2] []))
  refine OGo.st (fun _ k_ => XS.aloadN X14.here hx rfl (hb hby own_d_prog_13_method_1_code_19) rfl rfl k_) ?_
  show OGo p.tables e below _ (T14.setTop (mkF m 20 #[.val (.ref a1), .val r1, .val .null, .val .null, .val r2] [(.ref a1)]))
  refine OGo.st (fun _ k_ => XS.aload X14.here hx rfl (hb hby own_d_prog_13_method_1_code_20) rfl hr2 k_) ?_
  show OGo p.tables e below _ (T14.setTop (mkF m 22 #[.val (.ref a1), .val r1, .val .null, .val .null, .val r2] [r2, (.ref a1)]))
  obtain ⟨T20, hz20, X20, ez20, W20, st20⟩ := putF X14 hx hZ hown (host := "") (Or.inl (hw _ (List.mem_of_getElem? (i := 55) rfl))) Via.refl ez14 F_16 Ex_15 (Or.inr ⟨(hw _ (List.mem_of_getElem? (i := 56) rfl)), rfl, hnm⟩) (hw _ (List.mem_of_getElem? (i := 39) rfl)) (ty := (.object "java/lang/String")) (by decide) (own_narrow hr2) (own_fits hr2) (g := (mkF m 22 #[.val (.ref a1), .val r1, .val .null, .val .null, .val r2] [r2, (.ref a1)])) rfl rfl (hb hby own_d_prog_13_method_1_code_22)
  have Fw20 : Fld Z hz20 a1 "com/example/formwright/formwright/Failure" "text" "Ljava/lang/String;" r2 := F_16.same W20
  have Ex_21 := Ex_15.wr W20
  have F_22 := F_17.other W20 (Or.inr (slot_ne (Or.inr (hw _ (List.mem_of_getElem? (i := 50) rfl))) (Or.inr (hw _ (List.mem_of_getElem? (i := 56) rfl))) (by decide) (t := (.object "java/lang/String")) (t' := (.object "java/lang/String")) (by decide) (by decide)))
  have F_23 := F_18.other W20 (Or.inr (slot_ne (Or.inr (hw _ (List.mem_of_getElem? (i := 52) rfl))) (Or.inr (hw _ (List.mem_of_getElem? (i := 56) rfl))) (by decide) (t := (.object "com/example/formwright/formwright/Message")) (t' := (.object "java/lang/String")) (by decide) (by decide)))
  have F_24 := Fw14.other W20 (Or.inr (slot_ne (Or.inr (hw _ (List.mem_of_getElem? (i := 54) rfl))) (Or.inr (hw _ (List.mem_of_getElem? (i := 56) rfl))) (by decide) (t := (.object "java/lang/Object")) (t' := (.object "java/lang/String")) (by decide) (by decide)))
  have N20 := Fr.snoc X20 N14 g_a1
  have K_25 : Keep h0 hz20 [a1] := K_19.wr W20 (Or.inl (List.mem_of_getElem? (i := 0) rfl))
  refine OGo.st st20 ?_
  show OGo p.tables e below _ (T20.setTop (mkF m 25 #[.val (.ref a1), .val r1, .val .null, .val .null, .val r2] []))
  refine OGo.fin X20 (v := none) (fun _ => rfl) hlk (fun fs hr => X20.returnOut hx Bd.returns (hb hby own_d_prog_13_method_1_code_25) hr) ?_ (by decide) (by decide)
  show own_Q_rm10 Z a1 r1 r2 h0 n0 _ T20.heap _
  rw [ez20]
  exact ⟨rfl, N20, K_25, F_22, F_23, F_24, Fw20⟩
theorem own_d_prog_13_method_3_code_0 : decode prog_13_method_3_code 0 = .ok (.new 8, 3) := by decide +kernel
theorem own_d_prog_13_method_3_code_3 : decode prog_13_method_3_code 3 = .ok (.dup, 1) := by decide +kernel
theorem own_d_prog_13_method_3_code_4 : decode prog_13_method_3_code 4 = .ok (.aload_n 0, 1) := by decide +kernel
theorem own_d_prog_13_method_3_code_5 : decode prog_13_method_3_code 5 = .ok (.aconst_null, 1) := by decide +kernel
theorem own_d_prog_13_method_3_code_6 : decode prog_13_method_3_code 6 = .ok (.aconst_null, 1) := by decide +kernel
theorem own_d_prog_13_method_3_code_7 : decode prog_13_method_3_code 7 = .ok (.aload_n 1, 1) := by decide +kernel
theorem own_d_prog_13_method_3_code_8 : decode prog_13_method_3_code 8 = .ok (.invokespecial 29, 3) := by decide +kernel
theorem own_pd6 : parseMethodDescriptor "(Ljava/lang/String;Lcom/example/formwright/formwright/Message;Ljava/lang/Object;Ljava/lang/String;)V" = some ⟨[(.object "java/lang/String"), (.object "com/example/formwright/formwright/Message"), (.object "java/lang/Object"), (.object "java/lang/String")], none⟩ := by decide +kernel
theorem own_d_prog_13_method_3_code_11 : decode prog_13_method_3_code 11 = .ok (.areturn, 1) := by decide +kernel
theorem own_ef_rm11 (m : MethodId) (x0 : Value) (x1 : Value) (hr0 : x0.isRef = true) (hr1 : x1.isRef = true) : entryFrame m #[x0, x1] 2 = mkF m 0 #[.val x0, .val x1] [] := by rcases ref_cases hr0 with rfl | ⟨_, rfl⟩ <;> rcases ref_cases hr1 with rfl | ⟨_, rfl⟩ <;> first | rfl | (simp [entryFrame, mkF, argsToLocals, Value.category]; done)
def own_Q_rm11 (Z : State) (r1 r2 : Value) (h0 : Heap) (n0 : Nat) (v : Option Value) (h : Heap) (L : List Loc) : Prop := ∃ y : Addr, v = some (.ref y) ∧ Fr n0 L ∧ Keep h0 h [] ∧ Exa Z h y "com/example/formwright/formwright/Failure" ∧ Fld Z h y "com/example/formwright/formwright/Failure" "rule" "Ljava/lang/String;" r1 ∧ Fld Z h y "com/example/formwright/formwright/Failure" "message" "Lcom/example/formwright/formwright/Message;" .null ∧ Fld Z h y "com/example/formwright/formwright/Failure" "argument" "Ljava/lang/Object;" .null ∧ Fld Z h y "com/example/formwright/formwright/Failure" "text" "Ljava/lang/String;" r2
set_option maxRecDepth 65536 in
set_option maxHeartbeats 40000000 in
theorem rm11 (l : Launch) (Z : State) (a0 : Array Value) (hw : ∀ d ∈ tables_1, d.before a0 Z = true) (ws : List Jvm.Cond) (r1 r2 : Value) (h0 : Heap) (n0 : Nat) (Z0 : n0 ≤ h0.size) (hr1 : r1.isRef = true) (hr2 : r2.isRef = true) :
    OMet l Z (⟨"com/example/formwright/formwright/Failure", "own", "(Ljava/lang/String;Ljava/lang/String;)Lcom/example/formwright/formwright/Failure;"⟩ : MethodName) prog_13_method_3_code 2 (some (.object "com/example/formwright/formwright/Failure")) ws ({ frames := 3, cells := 1, slots := 4, locals := 41 } : Room) #[r1, r2] h0 (own_Q_rm11 Z r1 r2 h0 n0) := by
  refine MetFree.of_bodySF (plainFor_of_name own_pn4) hisR ?_
  intro p e s m args below meth c s₁ Bd hml0 hP hK
  obtain ⟨rfl, hZ, hh⟩ := hP
  have hx := Bd.exec
  have hby := Bd.bytes
  have hml : c.maxLocals = 2 := hml0
  have hown : s.vm.findClass "com/example/formwright/formwright/Failure" = some m.cls := findClass_of_methodNamed Bd.named
  have hnm := (name_of_methodNamed Bd.named Bd.method).1
  have hlk : meth.locks = false := Bd.notSynchronized
  have X0 : Stand p l e ({ frames := 3, cells := 1, slots := 4, locals := 41 } : Room) s m #[r1, r2] below meth c s₁ [] 0 0 := Stand.of_body Bd
  have e0 : s₁.heap = h0 := by rw [← hh, Bd.state]; rfl
  have N0 := Fr.nil n0
  refine OGo.enter (P := OPost s (own_Q_rm11 Z r1 r2 h0 n0) 1 4) (own_ef_rm11 m r1 r2 hr1 hr2) ?_
  show OGo p.tables e below _ (s₁.setTop (mkF m 0 #[.val r1, .val r2] []))
  obtain ⟨T1, hz1, X1, ez1, Ez1, Az1, Dz1, -, st1⟩ := newO X0 hx hZ hown (hw _ (List.mem_of_getElem? (i := 38) rfl)) (hw _ (List.mem_of_getElem? (i := 39) rfl)) (hw _ (List.mem_of_getElem? (i := 36) rfl)) e0 (g := (mkF m 0 #[.val r1, .val r2] [])) rfl (hb hby own_d_prog_13_method_3_code_0) (by decide) (by decide)
  obtain ⟨bz1, g1⟩ : ∃ z, z = h0.size := ⟨_, rfl⟩
  rw [← g1] at Az1 Dz1 st1
  have g_bz1 : n0 ≤ bz1 := Nat.le_trans (Nat.le_trans Z0 (Keep.refl h0 []).1) (Nat.le_of_eq g1.symm)
  have sz_bz1 : h0.size ≤ bz1 := Nat.le_trans (Keep.refl h0 []).1 (Nat.le_of_eq g1.symm)
  have K_2 : Keep h0 hz1 [] := (Keep.refl h0 []).ext Ez1
  have F_rule_1 : Fld Z hz1 bz1 "com/example/formwright/formwright/Failure" "rule" "Ljava/lang/String;" .null := Dz1 (Or.inr (hw _ (List.mem_of_getElem? (i := 50) rfl))) (ty := (.object "java/lang/String")) (by decide)
  have F_message_1 : Fld Z hz1 bz1 "com/example/formwright/formwright/Failure" "message" "Lcom/example/formwright/formwright/Message;" .null := Dz1 (Or.inr (hw _ (List.mem_of_getElem? (i := 52) rfl))) (ty := (.object "com/example/formwright/formwright/Message")) (by decide)
  have F_argument_1 : Fld Z hz1 bz1 "com/example/formwright/formwright/Failure" "argument" "Ljava/lang/Object;" .null := Dz1 (Or.inr (hw _ (List.mem_of_getElem? (i := 54) rfl))) (ty := (.object "java/lang/Object")) (by decide)
  have F_text_1 : Fld Z hz1 bz1 "com/example/formwright/formwright/Failure" "text" "Ljava/lang/String;" .null := Dz1 (Or.inr (hw _ (List.mem_of_getElem? (i := 56) rfl))) (ty := (.object "java/lang/String")) (by decide)
  refine OGo.st st1 ?_
  show OGo p.tables e below _ (T1.setTop (mkF m 3 #[.val r1, .val r2] [(.ref bz1)]))
  refine OGo.st (fun _ k_ => XS.dup X1.here hx rfl (hb hby own_d_prog_13_method_3_code_3) rfl rfl k_) ?_
  show OGo p.tables e below _ (T1.setTop (mkF m 4 #[.val r1, .val r2] [(.ref bz1), (.ref bz1)]))
  refine OGo.st (fun _ k_ => XS.aloadN X1.here hx rfl (hb hby own_d_prog_13_method_3_code_4) rfl hr1 k_) ?_
  show OGo p.tables e below _ (T1.setTop (mkF m 5 #[.val r1, .val r2] [r1, (.ref bz1), (.ref bz1)]))
  refine OGo.st (fun _ k_ => XS.aconstNull X1.here hx rfl (hb hby own_d_prog_13_method_3_code_5) k_) ?_
  show OGo p.tables e below _ (T1.setTop (mkF m 6 #[.val r1, .val r2] [.null, r1, (.ref bz1), (.ref bz1)]))
  refine OGo.st (fun _ k_ => XS.aconstNull X1.here hx rfl (hb hby own_d_prog_13_method_3_code_6) k_) ?_
  show OGo p.tables e below _ (T1.setTop (mkF m 7 #[.val r1, .val r2] [.null, .null, r1, (.ref bz1), (.ref bz1)]))
  refine OGo.st (fun _ k_ => XS.aloadN X1.here hx rfl (hb hby own_d_prog_13_method_3_code_7) rfl hr2 k_) ?_
  show OGo p.tables e below _ (T1.setTop (mkF m 8 #[.val r1, .val r2] [r2, .null, .null, r1, (.ref bz1), (.ref bz1)]))
  obtain ⟨_, _, ⟨T3, Lz3, kz3, nz3⟩, -, X3, ⟨Lc3, hQ3, lz3, yz3, zz3⟩, st3⟩ := X1.specialBack hx (y := (⟨"com/example/formwright/formwright/Failure", "<init>", "(Ljava/lang/String;Lcom/example/formwright/formwright/Message;Ljava/lang/Object;Ljava/lang/String;)V"⟩ : MethodName)) rfl hown (mvT hZ (hw _ (List.mem_of_getElem? (i := 40) rfl))) (mvT hZ (hw _ (List.mem_of_getElem? (i := 41) rfl))) (mvT hZ (hw _ (List.mem_of_getElem? (i := 42) rfl))) (by decide) (backOf (W := 1) (rm10 l Z a0 hw [] bz1 r1 r2 hz1 n0 (Nat.le_trans Z0 K_2.1) hr1 hr2 Az1 F_rule_1 F_message_1 F_argument_1 F_text_1 g_bz1) hZ (hw _ (List.mem_of_getElem? (i := 42) rfl)) (hw _ (List.mem_of_getElem? (i := 36) rfl)) (by decide) (by decide)) (g := (mkF m 8 #[.val r1, .val r2] [r2, .null, .null, r1, (.ref bz1), (.ref bz1)])) rfl (by rw [hml]; rfl) (Steps.refl _) (a := bz1) (argsL := [r1, .null, .null, r2]) (rest := [(.ref bz1)]) (lenOf own_pd6 rfl) rfl (by show 2 * 0 + _ ≤ _; exact Nat.le_of_eq rfl) (hb hby own_d_prog_13_method_3_code_8) (fun _ _ => ⟨rfl, ez1, (by decide : 1 + 0 ≤ _), (by decide : 4 + 0 ≤ _)⟩)
  dsimp only [Pt.U, Pt.locs, Pt.cells, Pt.slots] at X3 lz3 yz3 zz3 st3 hQ3
  subst lz3 yz3 zz3
  obtain ⟨rfl, Nq3, Kq3, qz3_0, qz3_1, qz3_2, qz3_3⟩ := hQ3
  have N3 := Fr.app N0 Nq3
  have Ex_4 := Az1.keep Kq3
  have K_5 : Keep h0 T3.heap [] := K_2.trans Kq3 (allS (Or.inr sz_bz1) all0)
  refine OGo.tr st3 ?_
  show OGo p.tables e below _ (T3.setTop (mkF m 11 #[.val r1, .val r2] [(.ref bz1)]))
  refine OGo.fin X3 (v := some (.ref bz1)) (fun h => by rw [Bd.returns] at h; cases h) hlk (fun fs hr => X3.areturnOut hx rfl Bd.returns rfl (hb hby own_d_prog_13_method_3_code_11) hr) ?_ (by decide) (by decide)
  show own_Q_rm11 Z r1 r2 h0 n0 _ T3.heap _
  skip
  exact ⟨_, rfl, N3, K_5, Ex_4, qz3_0, qz3_1, qz3_2, qz3_3⟩
theorem own_d_prog_13_method_7_code_0 : decode prog_13_method_7_code 0 = .ok (.aload_n 0, 1) := by decide +kernel
theorem own_d_prog_13_method_7_code_1 : decode prog_13_method_7_code 1 = .ok (.getfield 7, 3) := by decide +kernel
theorem own_d_prog_13_method_7_code_4 : decode prog_13_method_7_code 4 = .ok (.areturn, 1) := by decide +kernel
theorem own_ef_rm12 (m : MethodId) (x0 : Addr) : entryFrame m #[(.ref x0)] 1 = mkF m 0 #[.val (.ref x0)] [] := by first | (simp [entryFrame, mkF, argsToLocals, Value.category]; done) | rfl
def own_Q_rm12 (Z : State) (a1 : Addr) (r1 : Value) (h0 : Heap) (n0 : Nat) (v : Option Value) (h : Heap) (L : List Loc) : Prop := v = some r1 ∧ Fr n0 L ∧ h = h0
set_option maxRecDepth 65536 in
set_option maxHeartbeats 40000000 in
theorem rm12 (l : Launch) (Z : State) (a0 : Array Value) (hw : ∀ d ∈ tables_1, d.before a0 Z = true) (ws : List Jvm.Cond) (a1 : Addr) (r1 : Value) (h0 : Heap) (n0 : Nat) (Z0 : n0 ≤ h0.size) (hr1 : r1.isRef = true) (F_rule_a1 : Fld Z h0 a1 "com/example/formwright/formwright/Failure" "rule" "Ljava/lang/String;" r1) :
    OMet l Z (⟨"com/example/formwright/formwright/Failure", "rule", "()Ljava/lang/String;"⟩ : MethodName) prog_13_method_7_code 1 (some (.object "java/lang/String")) ws ({ frames := 0, cells := 0, slots := 0, locals := 0 } : Room) #[(.ref a1)] h0 (own_Q_rm12 Z a1 r1 h0 n0) := by
  refine MetFree.of_bodySF (plainFor_of_name own_pn4) hisR ?_
  intro p e s m args below meth c s₁ Bd hml0 hP hK
  obtain ⟨rfl, hZ, hh⟩ := hP
  have hx := Bd.exec
  have hby := Bd.bytes
  have hml : c.maxLocals = 1 := hml0
  have hown : s.vm.findClass "com/example/formwright/formwright/Failure" = some m.cls := findClass_of_methodNamed Bd.named
  have hnm := (name_of_methodNamed Bd.named Bd.method).1
  have hlk : meth.locks = false := Bd.notSynchronized
  have X0 : Stand p l e ({ frames := 0, cells := 0, slots := 0, locals := 0 } : Room) s m #[(.ref a1)] below meth c s₁ [] 0 0 := Stand.of_body Bd
  have e0 : s₁.heap = h0 := by rw [← hh, Bd.state]; rfl
  have N0 := Fr.nil n0
  refine OGo.enter (P := OPost s (own_Q_rm12 Z a1 r1 h0 n0) 0 0) (own_ef_rm12 m a1) ?_
  show OGo p.tables e below _ (s₁.setTop (mkF m 0 #[.val (.ref a1)] []))
  refine OGo.st (fun _ k_ => XS.aloadN X0.here hx rfl (hb hby own_d_prog_13_method_7_code_0) rfl rfl k_) ?_
  show OGo p.tables e below _ (s₁.setTop (mkF m 1 #[.val (.ref a1)] [(.ref a1)]))
  obtain ⟨T1, X1, ez1, st1⟩ := getF X0 hx hZ hown (host := "") (Or.inl (hw _ (List.mem_of_getElem? (i := 49) rfl))) Via.refl e0 F_rule_a1 (g := (mkF m 1 #[.val (.ref a1)] [(.ref a1)])) rfl rfl (hb hby own_d_prog_13_method_7_code_1)
  refine OGo.st st1 ?_
  show OGo p.tables e below _ (T1.setTop (mkF m 4 #[.val (.ref a1)] [r1]))
  refine OGo.fin X1 (v := some r1) (fun h => by rw [Bd.returns] at h; cases h) hlk (fun fs hr => X1.areturnOut hx hr1 Bd.returns rfl (hb hby own_d_prog_13_method_7_code_4) hr) ?_ (by decide) (by decide)
  show own_Q_rm12 Z a1 r1 h0 n0 _ T1.heap _
  rw [ez1]
  exact ⟨rfl, N0, rfl⟩
theorem own_d_prog_13_method_8_code_0 : decode prog_13_method_8_code 0 = .ok (.aload_n 0, 1) := by decide +kernel
theorem own_d_prog_13_method_8_code_1 : decode prog_13_method_8_code 1 = .ok (.getfield 13, 3) := by decide +kernel
theorem own_d_prog_13_method_8_code_4 : decode prog_13_method_8_code 4 = .ok (.areturn, 1) := by decide +kernel
theorem own_ef_rm13 (m : MethodId) (x0 : Addr) : entryFrame m #[(.ref x0)] 1 = mkF m 0 #[.val (.ref x0)] [] := by first | (simp [entryFrame, mkF, argsToLocals, Value.category]; done) | rfl
def own_Q_rm13 (Z : State) (a1 : Addr) (h0 : Heap) (n0 : Nat) (v : Option Value) (h : Heap) (L : List Loc) : Prop := v = some .null ∧ Fr n0 L ∧ h = h0
set_option maxRecDepth 65536 in
set_option maxHeartbeats 40000000 in
theorem rm13 (l : Launch) (Z : State) (a0 : Array Value) (hw : ∀ d ∈ tables_1, d.before a0 Z = true) (ws : List Jvm.Cond) (a1 : Addr) (h0 : Heap) (n0 : Nat) (Z0 : n0 ≤ h0.size) (F_message_a1 : Fld Z h0 a1 "com/example/formwright/formwright/Failure" "message" "Lcom/example/formwright/formwright/Message;" .null) :
    OMet l Z (⟨"com/example/formwright/formwright/Failure", "message", "()Lcom/example/formwright/formwright/Message;"⟩ : MethodName) prog_13_method_8_code 1 (some (.object "com/example/formwright/formwright/Message")) ws ({ frames := 0, cells := 0, slots := 0, locals := 0 } : Room) #[(.ref a1)] h0 (own_Q_rm13 Z a1 h0 n0) := by
  refine MetFree.of_bodySF (plainFor_of_name own_pn4) hisR ?_
  intro p e s m args below meth c s₁ Bd hml0 hP hK
  obtain ⟨rfl, hZ, hh⟩ := hP
  have hx := Bd.exec
  have hby := Bd.bytes
  have hml : c.maxLocals = 1 := hml0
  have hown : s.vm.findClass "com/example/formwright/formwright/Failure" = some m.cls := findClass_of_methodNamed Bd.named
  have hnm := (name_of_methodNamed Bd.named Bd.method).1
  have hlk : meth.locks = false := Bd.notSynchronized
  have X0 : Stand p l e ({ frames := 0, cells := 0, slots := 0, locals := 0 } : Room) s m #[(.ref a1)] below meth c s₁ [] 0 0 := Stand.of_body Bd
  have e0 : s₁.heap = h0 := by rw [← hh, Bd.state]; rfl
  have N0 := Fr.nil n0
  refine OGo.enter (P := OPost s (own_Q_rm13 Z a1 h0 n0) 0 0) (own_ef_rm13 m a1) ?_
  show OGo p.tables e below _ (s₁.setTop (mkF m 0 #[.val (.ref a1)] []))
  refine OGo.st (fun _ k_ => XS.aloadN X0.here hx rfl (hb hby own_d_prog_13_method_8_code_0) rfl rfl k_) ?_
  show OGo p.tables e below _ (s₁.setTop (mkF m 1 #[.val (.ref a1)] [(.ref a1)]))
  obtain ⟨T1, X1, ez1, st1⟩ := getF X0 hx hZ hown (host := "") (Or.inl (hw _ (List.mem_of_getElem? (i := 51) rfl))) Via.refl e0 F_message_a1 (g := (mkF m 1 #[.val (.ref a1)] [(.ref a1)])) rfl rfl (hb hby own_d_prog_13_method_8_code_1)
  refine OGo.st st1 ?_
  show OGo p.tables e below _ (T1.setTop (mkF m 4 #[.val (.ref a1)] [.null]))
  refine OGo.fin X1 (v := some .null) (fun h => by rw [Bd.returns] at h; cases h) hlk (fun fs hr => X1.areturnOut hx rfl Bd.returns rfl (hb hby own_d_prog_13_method_8_code_4) hr) ?_ (by decide) (by decide)
  show own_Q_rm13 Z a1 h0 n0 _ T1.heap _
  rw [ez1]
  exact ⟨rfl, N0, rfl⟩
theorem own_d_prog_13_method_9_code_0 : decode prog_13_method_9_code 0 = .ok (.aload_n 0, 1) := by decide +kernel
theorem own_d_prog_13_method_9_code_1 : decode prog_13_method_9_code 1 = .ok (.getfield 17, 3) := by decide +kernel
theorem own_d_prog_13_method_9_code_4 : decode prog_13_method_9_code 4 = .ok (.areturn, 1) := by decide +kernel
theorem own_ef_rm14 (m : MethodId) (x0 : Addr) : entryFrame m #[(.ref x0)] 1 = mkF m 0 #[.val (.ref x0)] [] := by first | (simp [entryFrame, mkF, argsToLocals, Value.category]; done) | rfl
def own_Q_rm14 (Z : State) (a1 : Addr) (h0 : Heap) (n0 : Nat) (v : Option Value) (h : Heap) (L : List Loc) : Prop := v = some .null ∧ Fr n0 L ∧ h = h0
set_option maxRecDepth 65536 in
set_option maxHeartbeats 40000000 in
theorem rm14 (l : Launch) (Z : State) (a0 : Array Value) (hw : ∀ d ∈ tables_1, d.before a0 Z = true) (ws : List Jvm.Cond) (a1 : Addr) (h0 : Heap) (n0 : Nat) (Z0 : n0 ≤ h0.size) (F_argument_a1 : Fld Z h0 a1 "com/example/formwright/formwright/Failure" "argument" "Ljava/lang/Object;" .null) :
    OMet l Z (⟨"com/example/formwright/formwright/Failure", "argument", "()Ljava/lang/Object;"⟩ : MethodName) prog_13_method_9_code 1 (some (.object "java/lang/Object")) ws ({ frames := 0, cells := 0, slots := 0, locals := 0 } : Room) #[(.ref a1)] h0 (own_Q_rm14 Z a1 h0 n0) := by
  refine MetFree.of_bodySF (plainFor_of_name own_pn4) hisR ?_
  intro p e s m args below meth c s₁ Bd hml0 hP hK
  obtain ⟨rfl, hZ, hh⟩ := hP
  have hx := Bd.exec
  have hby := Bd.bytes
  have hml : c.maxLocals = 1 := hml0
  have hown : s.vm.findClass "com/example/formwright/formwright/Failure" = some m.cls := findClass_of_methodNamed Bd.named
  have hnm := (name_of_methodNamed Bd.named Bd.method).1
  have hlk : meth.locks = false := Bd.notSynchronized
  have X0 : Stand p l e ({ frames := 0, cells := 0, slots := 0, locals := 0 } : Room) s m #[(.ref a1)] below meth c s₁ [] 0 0 := Stand.of_body Bd
  have e0 : s₁.heap = h0 := by rw [← hh, Bd.state]; rfl
  have N0 := Fr.nil n0
  refine OGo.enter (P := OPost s (own_Q_rm14 Z a1 h0 n0) 0 0) (own_ef_rm14 m a1) ?_
  show OGo p.tables e below _ (s₁.setTop (mkF m 0 #[.val (.ref a1)] []))
  refine OGo.st (fun _ k_ => XS.aloadN X0.here hx rfl (hb hby own_d_prog_13_method_9_code_0) rfl rfl k_) ?_
  show OGo p.tables e below _ (s₁.setTop (mkF m 1 #[.val (.ref a1)] [(.ref a1)]))
  obtain ⟨T1, X1, ez1, st1⟩ := getF X0 hx hZ hown (host := "") (Or.inl (hw _ (List.mem_of_getElem? (i := 53) rfl))) Via.refl e0 F_argument_a1 (g := (mkF m 1 #[.val (.ref a1)] [(.ref a1)])) rfl rfl (hb hby own_d_prog_13_method_9_code_1)
  refine OGo.st st1 ?_
  show OGo p.tables e below _ (T1.setTop (mkF m 4 #[.val (.ref a1)] [.null]))
  refine OGo.fin X1 (v := some .null) (fun h => by rw [Bd.returns] at h; cases h) hlk (fun fs hr => X1.areturnOut hx rfl Bd.returns rfl (hb hby own_d_prog_13_method_9_code_4) hr) ?_ (by decide) (by decide)
  show own_Q_rm14 Z a1 h0 n0 _ T1.heap _
  rw [ez1]
  exact ⟨rfl, N0, rfl⟩
theorem own_d_prog_13_method_10_code_0 : decode prog_13_method_10_code 0 = .ok (.aload_n 0, 1) := by decide +kernel
theorem own_d_prog_13_method_10_code_1 : decode prog_13_method_10_code 1 = .ok (.getfield 21, 3) := by decide +kernel
theorem own_d_prog_13_method_10_code_4 : decode prog_13_method_10_code 4 = .ok (.areturn, 1) := by decide +kernel
theorem own_ef_rm15 (m : MethodId) (x0 : Addr) : entryFrame m #[(.ref x0)] 1 = mkF m 0 #[.val (.ref x0)] [] := by first | (simp [entryFrame, mkF, argsToLocals, Value.category]; done) | rfl
def own_Q_rm15 (Z : State) (a1 : Addr) (r1 : Value) (h0 : Heap) (n0 : Nat) (v : Option Value) (h : Heap) (L : List Loc) : Prop := v = some r1 ∧ Fr n0 L ∧ h = h0
set_option maxRecDepth 65536 in
set_option maxHeartbeats 40000000 in
theorem rm15 (l : Launch) (Z : State) (a0 : Array Value) (hw : ∀ d ∈ tables_1, d.before a0 Z = true) (ws : List Jvm.Cond) (a1 : Addr) (r1 : Value) (h0 : Heap) (n0 : Nat) (Z0 : n0 ≤ h0.size) (hr1 : r1.isRef = true) (F_text_a1 : Fld Z h0 a1 "com/example/formwright/formwright/Failure" "text" "Ljava/lang/String;" r1) :
    OMet l Z (⟨"com/example/formwright/formwright/Failure", "text", "()Ljava/lang/String;"⟩ : MethodName) prog_13_method_10_code 1 (some (.object "java/lang/String")) ws ({ frames := 0, cells := 0, slots := 0, locals := 0 } : Room) #[(.ref a1)] h0 (own_Q_rm15 Z a1 r1 h0 n0) := by
  refine MetFree.of_bodySF (plainFor_of_name own_pn4) hisR ?_
  intro p e s m args below meth c s₁ Bd hml0 hP hK
  obtain ⟨rfl, hZ, hh⟩ := hP
  have hx := Bd.exec
  have hby := Bd.bytes
  have hml : c.maxLocals = 1 := hml0
  have hown : s.vm.findClass "com/example/formwright/formwright/Failure" = some m.cls := findClass_of_methodNamed Bd.named
  have hnm := (name_of_methodNamed Bd.named Bd.method).1
  have hlk : meth.locks = false := Bd.notSynchronized
  have X0 : Stand p l e ({ frames := 0, cells := 0, slots := 0, locals := 0 } : Room) s m #[(.ref a1)] below meth c s₁ [] 0 0 := Stand.of_body Bd
  have e0 : s₁.heap = h0 := by rw [← hh, Bd.state]; rfl
  have N0 := Fr.nil n0
  refine OGo.enter (P := OPost s (own_Q_rm15 Z a1 r1 h0 n0) 0 0) (own_ef_rm15 m a1) ?_
  show OGo p.tables e below _ (s₁.setTop (mkF m 0 #[.val (.ref a1)] []))
  refine OGo.st (fun _ k_ => XS.aloadN X0.here hx rfl (hb hby own_d_prog_13_method_10_code_0) rfl rfl k_) ?_
  show OGo p.tables e below _ (s₁.setTop (mkF m 1 #[.val (.ref a1)] [(.ref a1)]))
  obtain ⟨T1, X1, ez1, st1⟩ := getF X0 hx hZ hown (host := "") (Or.inl (hw _ (List.mem_of_getElem? (i := 55) rfl))) Via.refl e0 F_text_a1 (g := (mkF m 1 #[.val (.ref a1)] [(.ref a1)])) rfl rfl (hb hby own_d_prog_13_method_10_code_1)
  refine OGo.st st1 ?_
  show OGo p.tables e below _ (T1.setTop (mkF m 4 #[.val (.ref a1)] [r1]))
  refine OGo.fin X1 (v := some r1) (fun h => by rw [Bd.returns] at h; cases h) hlk (fun fs hr => X1.areturnOut hx hr1 Bd.returns rfl (hb hby own_d_prog_13_method_10_code_4) hr) ?_ (by decide) (by decide)
  show own_Q_rm15 Z a1 r1 h0 n0 _ T1.heap _
  rw [ez1]
  exact ⟨rfl, N0, rfl⟩
theorem own_pd7 : parseMethodDescriptor "(III)Ljava/lang/String;" = some ⟨[.int, .int, .int], some (.object "java/lang/String")⟩ := by decide +kernel
theorem own_pd8 : parseMethodDescriptor "(Ljava/lang/String;Ljava/lang/String;)Lcom/example/formwright/formwright/Failure;" = some ⟨[(.object "java/lang/String"), (.object "java/lang/String")], some (.object "com/example/formwright/formwright/Failure")⟩ := by decide +kernel
theorem own_pd9 : parseMethodDescriptor "()Ljava/lang/String;" = some ⟨[], some (.object "java/lang/String")⟩ := by decide +kernel
theorem own_pd10 : parseMethodDescriptor "()Lcom/example/formwright/formwright/Message;" = some ⟨[], some (.object "com/example/formwright/formwright/Message")⟩ := by decide +kernel
theorem own_pd11 : parseMethodDescriptor "()Ljava/lang/Object;" = some ⟨[], some (.object "java/lang/Object")⟩ := by decide +kernel
theorem own_ef_rm0 (m : MethodId) (x0 : Int32) (x1 : Int32) (x2 : Int32) (x3 : Int32) (x4 : Int32) : entryFrame m #[(.int x0), (.int x1), (.int x2), (.int x3), (.int x4)] maxLocals = mkF m 0 #[.val (.int x0), .val (.int x1), .val (.int x2), .val (.int x3), .val (.int x4), .unset, .unset, .unset] [] := by first | (simp [entryFrame, mkF, argsToLocals, Value.category, maxLocals]; done) | rfl
def own_Q_rm0 (Z : State) (p1 p2 p3 p4 p5 cs : Int32) (h0 : Heap) (n0 : Nat) (v : Option Value) (h : Heap) (L : List Loc) : Prop := v = some (.int 1) ∧ Fr n0 L
set_option maxRecDepth 65536 in
set_option maxHeartbeats 40000000 in
theorem rm0 (l : Launch) (Z : State) (a0 : Array Value) (hw : ∀ d ∈ tables_1, d.before a0 Z = true) (ws : List Jvm.Cond) (p1 p2 p3 p4 p5 cs : Int32) (h0 : Heap) (n0 : Nat) (Z0 : n0 ≤ h0.size) (S_cs : Sta Z h0 "java/lang/String" "COMPACT_STRINGS" "Z" (.int cs)) (hcs : ¬ cs = 0) :
    OMetS l Z own_EL ([] : List Addr) x code maxLocals ret ws room_1 #[(.int p1), (.int p2), (.int p3), (.int p4), (.int p5)] h0 (own_Q_rm0 Z p1 p2 p3 p4 p5 cs h0 n0) := by
  refine MetFree.of_bodySF (plainFor_of_name own_pn2) hisR ?_
  intro p e s m args below meth c s₁ Bd hml0 hP hK
  obtain ⟨rfl, hZ, hh, hCH, hsf⟩ := hP
  have hx := Bd.exec
  have hby := Bd.bytes
  have hml : c.maxLocals = 8 := hml0
  have hown : s.vm.findClass "com/example/formwright/formwright/FailureOwnPinLaw" = some m.cls := findClass_of_methodNamed Bd.named
  have hnm := (name_of_methodNamed Bd.named Bd.method).1
  have hlk : meth.locks = false := Bd.notSynchronized
  have X0 : Stand p l e room_1 (s.setVm s.vm) m #[(.int p1), (.int p2), (.int p3), (.int p4), (.int p5)] below meth c s₁ [] 0 0 := Stand.of_body Bd
  have O0 : OSt Z own_EL s m "com/example/formwright/formwright/FailureOwnPinLaw" s.vm h0 h0 := ⟨hZ, hown, ⟨h0.size, own_since s _, Nat.le_refl _⟩, CHr.refl hCH⟩
  have hZ := O0.z
  have hown := O0.o
  have e0 : s₁.heap = h0 := by rw [← hh, Bd.state]; rfl
  have N0 := Fr.nil n0
  refine OGo.enter (P := OPostS Z own_EL s (own_Q_rm0 Z p1 p2 p3 p4 p5 cs h0 n0) room_1.cells room_1.slots) (own_ef_rm0 m p1 p2 p3 p4 p5) ?_
  show OGo p.tables e below _ (s₁.setTop (mkF m 0 #[.val (.int p1), .val (.int p2), .val (.int p3), .val (.int p4), .val (.int p5), .unset, .unset, .unset] []))
  refine OGo.st (fun _ k_ => XS.iload X0.here hx rfl (hb hby at_0) rfl k_) ?_
  show OGo p.tables e below _ (s₁.setTop (mkF m 2 #[.val (.int p1), .val (.int p2), .val (.int p3), .val (.int p4), .val (.int p5), .unset, .unset, .unset] [(.int p5)]))
  refine OGo.st (fun _ k_ => XS.iloadN X0.here hx rfl (hb hby at_2) rfl k_) ?_
  show OGo p.tables e below _ (s₁.setTop (mkF m 3 #[.val (.int p1), .val (.int p2), .val (.int p3), .val (.int p4), .val (.int p5), .unset, .unset, .unset] [(.int p1), (.int p5)]))
  refine OGo.st (fun _ k_ => XS.iloadN X0.here hx rfl (hb hby at_3) rfl k_) ?_
  show OGo p.tables e below _ (s₁.setTop (mkF m 4 #[.val (.int p1), .val (.int p2), .val (.int p3), .val (.int p4), .val (.int p5), .unset, .unset, .unset] [(.int p2), (.int p1), (.int p5)]))
  have hsc1 : ∀ x ∈ ([] : List Addr), x < h0.size ∧ Safe Z own_EL s.vm h0 x := all0
  obtain ⟨_, _, ⟨T1, Lz1, kz1, nz1⟩, -, X1, sn1, gn1, ⟨Lc1, hQ1, lz1, yz1, zz1, cr1⟩, st1⟩ := callSS X0 hx (y := (⟨"com/example/formwright/formwright/FailureOwnPinLaw", "draw", "(III)Ljava/lang/String;"⟩ : MethodName)) hown (mvT hZ (hw _ (List.mem_of_getElem? (i := 0) rfl))) (mvT hZ (hw _ (List.mem_of_getElem? (i := 1) rfl))) (mvT hZ (hw _ (List.mem_of_getElem? (i := 2) rfl))) (mvT hZ (hw _ (List.mem_of_getElem? (i := 3) rfl))) (by decide) (own_backSH (W := 0) (rm8 l Z a0 hw [] p5 p1 p2 cs h0 n0 (Nat.le_trans Z0 (Keep.refl h0 []).1) S_cs hcs) hZ (hw _ (List.mem_of_getElem? (i := 3) rfl)) (hw _ (List.mem_of_getElem? (i := 2) rfl)) (by decide) (by decide) (own_EW hw) O0.r.1 hsc1) (g := (mkF m 4 #[.val (.int p1), .val (.int p2), .val (.int p3), .val (.int p4), .val (.int p5), .unset, .unset, .unset] [(.int p2), (.int p1), (.int p5)])) rfl (by rw [hml]; rfl) (argsL := [(.int p5), (.int p1), (.int p2)]) (rest := []) (lenOf own_pd7 rfl) rfl (by show 2 * 0 + _ ≤ _; exact Nat.le_of_eq rfl) (hb hby at_4) (fun _ _ => ⟨rfl, e0, (by decide : 0 + 6 ≤ _), (by decide : 0 + 12 ≤ _)⟩)
  dsimp only [Pt.U, Pt.locs, Pt.cells, Pt.slots] at X1 sn1 gn1 lz1 yz1 zz1 cr1 st1 hQ1
  subst lz1 yz1 zz1
  have O1 := O0.call sn1 e0 gn1 cr1
  have X1 : Stand p l e room_1 (s.setVm T1.vm) m #[(.int p1), (.int p2), (.int p3), (.int p4), (.int p5)] below meth c T1 _ _ _ := X1
  have hZ := O1.z
  have hown := O1.o
  obtain ⟨rq1, rfl, hrq1, Nq1, Kq1⟩ := hQ1
  have N1 := Fr.app N0 Nq1
  have K_2 : Keep h0 T1.heap [] := (Keep.refl h0 []).trans Kq1 all0
  refine OGo.tr st1 ?_
  show OGo p.tables e below _ (T1.setTop (mkF m 7 #[.val (.int p1), .val (.int p2), .val (.int p3), .val (.int p4), .val (.int p5), .unset, .unset, .unset] [rq1]))
  refine OGo.st (fun _ k_ => XS.astore X1.here hx rfl (hb hby at_7) rfl hrq1 (l' := #[.val (.int p1), .val (.int p2), .val (.int p3), .val (.int p4), .val (.int p5), .val rq1, .unset, .unset]) (XS.store1 rfl (Or.inl rfl) (XT.cat1 hrq1)) k_) ?_
  show OGo p.tables e below _ (T1.setTop (mkF m 9 #[.val (.int p1), .val (.int p2), .val (.int p3), .val (.int p4), .val (.int p5), .val rq1, .unset, .unset] []))
  refine OGo.st (fun _ k_ => XS.iload X1.here hx rfl (hb hby at_9) rfl k_) ?_
  show OGo p.tables e below _ (T1.setTop (mkF m 11 #[.val (.int p1), .val (.int p2), .val (.int p3), .val (.int p4), .val (.int p5), .val rq1, .unset, .unset] [(.int p5)]))
  refine OGo.st (fun _ k_ => XS.iconst X1.here hx rfl (hb hby at_11) k_) ?_
  show OGo p.tables e below _ (T1.setTop (mkF m 12 #[.val (.int p1), .val (.int p2), .val (.int p3), .val (.int p4), .val (.int p5), .val rq1, .unset, .unset] [(.int (2 : Int32)), (.int p5)]))
  refine OGo.st (fun _ k_ => XS.iushr X1.here hx rfl (hb hby at_12) rfl k_) ?_
  show OGo p.tables e below _ (T1.setTop (mkF m 13 #[.val (.int p1), .val (.int p2), .val (.int p3), .val (.int p4), .val (.int p5), .val rq1, .unset, .unset] [(.int ((p5.toUInt32 >>> ((2 : Int32) &&& 31).toUInt32).toInt32))]))
  refine OGo.st (fun _ k_ => XS.iloadN X1.here hx rfl (hb hby at_13) rfl k_) ?_
  show OGo p.tables e below _ (T1.setTop (mkF m 14 #[.val (.int p1), .val (.int p2), .val (.int p3), .val (.int p4), .val (.int p5), .val rq1, .unset, .unset] [(.int p3), (.int ((p5.toUInt32 >>> ((2 : Int32) &&& 31).toUInt32).toInt32))]))
  refine OGo.st (fun _ k_ => XS.iloadN X1.here hx rfl (hb hby at_14) rfl k_) ?_
  show OGo p.tables e below _ (T1.setTop (mkF m 15 #[.val (.int p1), .val (.int p2), .val (.int p3), .val (.int p4), .val (.int p5), .val rq1, .unset, .unset] [(.int p4), (.int p3), (.int ((p5.toUInt32 >>> ((2 : Int32) &&& 31).toUInt32).toInt32))]))
  have hsc3 : ∀ x ∈ ([] : List Addr), x < T1.heap.size ∧ Safe Z own_EL T1.vm T1.heap x := all0
  obtain ⟨_, _, ⟨T3, Lz3, kz3, nz3⟩, -, X3, sn3, gn3, ⟨Lc3, hQ3, lz3, yz3, zz3, cr3⟩, st3⟩ := callSS X1 hx (y := (⟨"com/example/formwright/formwright/FailureOwnPinLaw", "draw", "(III)Ljava/lang/String;"⟩ : MethodName)) hown (mvT hZ (hw _ (List.mem_of_getElem? (i := 0) rfl))) (mvT hZ (hw _ (List.mem_of_getElem? (i := 1) rfl))) (mvT hZ (hw _ (List.mem_of_getElem? (i := 2) rfl))) (mvT hZ (hw _ (List.mem_of_getElem? (i := 3) rfl))) (by decide) (own_backSH (W := 0) (rm8 l Z a0 hw [] ((p5.toUInt32 >>> ((2 : Int32) &&& 31).toUInt32).toInt32) p3 p4 cs T1.heap n0 (Nat.le_trans Z0 K_2.1) (own_sta_keep S_cs K_2) hcs) hZ (hw _ (List.mem_of_getElem? (i := 3) rfl)) (hw _ (List.mem_of_getElem? (i := 2) rfl)) (by decide) (by decide) (own_EW hw) O1.r.1 hsc3) (g := (mkF m 15 #[.val (.int p1), .val (.int p2), .val (.int p3), .val (.int p4), .val (.int p5), .val rq1, .unset, .unset] [(.int p4), (.int p3), (.int ((p5.toUInt32 >>> ((2 : Int32) &&& 31).toUInt32).toInt32))])) rfl (by rw [hml]; rfl) (argsL := [(.int ((p5.toUInt32 >>> ((2 : Int32) &&& 31).toUInt32).toInt32)), (.int p3), (.int p4)]) (rest := []) (lenOf own_pd7 rfl) rfl (by show 2 * 0 + _ ≤ _; exact Nat.le_of_eq rfl) (hb hby at_15) (fun _ _ => ⟨rfl, rfl, (by decide : 6 + 6 ≤ _), (by decide : 12 + 12 ≤ _)⟩)
  dsimp only [Pt.U, Pt.locs, Pt.cells, Pt.slots] at X3 sn3 gn3 lz3 yz3 zz3 cr3 st3 hQ3
  subst lz3 yz3 zz3
  have O3 := O1.call sn3 rfl gn3 cr3
  have X3 : Stand p l e room_1 (s.setVm T3.vm) m #[(.int p1), (.int p2), (.int p3), (.int p4), (.int p5)] below meth c T3 _ _ _ := X3
  have hZ := O3.z
  have hown := O3.o
  obtain ⟨rq3, rfl, hrq3, Nq3, Kq3⟩ := hQ3
  have N3 := Fr.app N1 Nq3
  have K_4 : Keep h0 T3.heap [] := K_2.trans Kq3 all0
  refine OGo.tr st3 ?_
  show OGo p.tables e below _ (T3.setTop (mkF m 18 #[.val (.int p1), .val (.int p2), .val (.int p3), .val (.int p4), .val (.int p5), .val rq1, .unset, .unset] [rq3]))
  refine OGo.st (fun _ k_ => XS.astore X3.here hx rfl (hb hby at_18) rfl hrq3 (l' := #[.val (.int p1), .val (.int p2), .val (.int p3), .val (.int p4), .val (.int p5), .val rq1, .val rq3, .unset]) (XS.store1 rfl (Or.inl rfl) (XT.cat1 hrq3)) k_) ?_
  show OGo p.tables e below _ (T3.setTop (mkF m 20 #[.val (.int p1), .val (.int p2), .val (.int p3), .val (.int p4), .val (.int p5), .val rq1, .val rq3, .unset] []))
  refine OGo.st (fun _ k_ => XS.aload X3.here hx rfl (hb hby at_20) rfl hrq1 k_) ?_
  show OGo p.tables e below _ (T3.setTop (mkF m 22 #[.val (.int p1), .val (.int p2), .val (.int p3), .val (.int p4), .val (.int p5), .val rq1, .val rq3, .unset] [rq1]))
  refine OGo.st (fun _ k_ => XS.aload X3.here hx rfl (hb hby at_22) rfl hrq3 k_) ?_
  show OGo p.tables e below _ (T3.setTop (mkF m 24 #[.val (.int p1), .val (.int p2), .val (.int p3), .val (.int p4), .val (.int p5), .val rq1, .val rq3, .unset] [rq3, rq1]))
  obtain ⟨_, _, ⟨T5, Lz5, kz5, nz5⟩, -, X5, ⟨Lc5, hQ5, lz5, yz5, zz5⟩, st5⟩ := Jvm.LawKit.callS X3 hx (y := (⟨"com/example/formwright/formwright/Failure", "own", "(Ljava/lang/String;Ljava/lang/String;)Lcom/example/formwright/formwright/Failure;"⟩ : MethodName)) hown (mvT hZ (hw _ (List.mem_of_getElem? (i := 34) rfl))) (mvT hZ (hw _ (List.mem_of_getElem? (i := 35) rfl))) (mvT hZ (hw _ (List.mem_of_getElem? (i := 36) rfl))) (mvT hZ (hw _ (List.mem_of_getElem? (i := 37) rfl))) (by decide) (backOf (W := 0) (rm11 l Z a0 hw [] rq1 rq3 T3.heap n0 (Nat.le_trans Z0 K_4.1) hrq1 hrq3) hZ (hw _ (List.mem_of_getElem? (i := 37) rfl)) (hw _ (List.mem_of_getElem? (i := 36) rfl)) (by decide) (by decide)) (g := (mkF m 24 #[.val (.int p1), .val (.int p2), .val (.int p3), .val (.int p4), .val (.int p5), .val rq1, .val rq3, .unset] [rq3, rq1])) rfl (by rw [hml]; rfl) (argsL := [rq1, rq3]) (rest := []) (lenOf own_pd8 rfl) rfl (by show 2 * 0 + _ ≤ _; exact Nat.le_of_eq rfl) (hb hby at_24) (fun _ _ => ⟨rfl, rfl, (by decide : 12 + 1 ≤ _), (by decide : 24 + 4 ≤ _)⟩)
  dsimp only [Pt.U, Pt.locs, Pt.cells, Pt.slots] at X5 lz5 yz5 zz5 st5 hQ5
  subst lz5 yz5 zz5
  obtain ⟨yq5, rfl, Nq5, Kq5, Eq5, fq5_0, fq5_1, fq5_2, fq5_3⟩ := hQ5
  have N5 := Fr.app N3 Nq5
  have hsk6 : ∀ x ∈ ([] : List Addr), Safe Z own_EL T3.vm T3.heap x := all0
  have O6 := O3.keep Kq5 hsk6
  have K_7 : Keep h0 T5.heap [] := K_4.trans Kq5 all0
  refine OGo.st st5 ?_
  show OGo p.tables e below _ (T5.setTop (mkF m 27 #[.val (.int p1), .val (.int p2), .val (.int p3), .val (.int p4), .val (.int p5), .val rq1, .val rq3, .unset] [(.ref yq5)]))
  refine OGo.st (fun _ k_ => XS.astore X5.here hx rfl (hb hby at_27) rfl rfl (l' := #[.val (.int p1), .val (.int p2), .val (.int p3), .val (.int p4), .val (.int p5), .val rq1, .val rq3, .val (.ref yq5)]) rfl k_) ?_
  show OGo p.tables e below _ (T5.setTop (mkF m 29 #[.val (.int p1), .val (.int p2), .val (.int p3), .val (.int p4), .val (.int p5), .val rq1, .val rq3, .val (.ref yq5)] []))
  refine OGo.st (fun _ k_ => XS.aload X5.here hx rfl (hb hby at_29) rfl rfl k_) ?_
  show OGo p.tables e below _ (T5.setTop (mkF m 31 #[.val (.int p1), .val (.int p2), .val (.int p3), .val (.int p4), .val (.int p5), .val rq1, .val rq3, .val (.ref yq5)] [(.ref yq5)]))
  refine OGo.st (fun _ k_ => XT.nonnullYes X5.here hx rfl (pc0 := 31) (pc' := 36) rfl (hb hby at_31) rfl rfl (fun q => nomatch q) (by decide) (by decide) k_) ?_
  show OGo p.tables e below _ (T5.setTop (mkF m 36 #[.val (.int p1), .val (.int p2), .val (.int p3), .val (.int p4), .val (.int p5), .val rq1, .val rq3, .val (.ref yq5)] []))
  refine OGo.st (fun _ k_ => XS.aload X5.here hx rfl (hb hby at_36) rfl rfl k_) ?_
  show OGo p.tables e below _ (T5.setTop (mkF m 38 #[.val (.int p1), .val (.int p2), .val (.int p3), .val (.int p4), .val (.int p5), .val rq1, .val rq3, .val (.ref yq5)] [(.ref yq5)]))
  obtain ⟨cq8, kqz8, qz8a, qz8b, qz8c⟩ := isOf hZ rfl Eq5
  obtain ⟨_, _, ⟨T8, Lz8, kz8, nz8⟩, -, X8, ⟨Lc8, hQ8, lz8, yz8, zz8⟩, st8⟩ := X5.virtualBack hx (y := (⟨"com/example/formwright/formwright/Failure", "rule", "()Ljava/lang/String;"⟩ : MethodName)) (z := (⟨"com/example/formwright/formwright/Failure", "rule", "()Ljava/lang/String;"⟩ : MethodName)) hown (mvT hZ (hw _ (List.mem_of_getElem? (i := 57) rfl))) (mvT hZ (hw _ (List.mem_of_getElem? (i := 58) rfl))) (notFace_of_selects (args := #[]) (mvT hZ (hw _ (List.mem_of_getElem? (i := 60) rfl)))) (mvT hZ (hw _ (List.mem_of_getElem? (i := 60) rfl))) (mvT hZ (hw _ (List.mem_of_getElem? (i := 59) rfl))) (by decide) (backOf (W := 0) (rm12 l Z a0 hw [] yq5 rq1 T5.heap n0 (Nat.le_trans Z0 K_7.1) hrq1 fq5_0) hZ (hw _ (List.mem_of_getElem? (i := 61) rfl)) (hw _ (List.mem_of_getElem? (i := 36) rfl)) (by decide) (by decide)) qz8a qz8c (g := (mkF m 38 #[.val (.int p1), .val (.int p2), .val (.int p3), .val (.int p4), .val (.int p5), .val rq1, .val rq3, .val (.ref yq5)] [(.ref yq5)])) rfl (by rw [hml]; rfl) (Steps.refl _) (argsL := []) (rest := []) (lenOf own_pd9 rfl) rfl (by show 2 * 0 + _ ≤ _; exact Nat.le_of_eq rfl) (hb hby at_38) (fun _ _ => ⟨rfl, rfl, (by decide : 13 + 0 ≤ _), (by decide : 28 + 0 ≤ _)⟩)
  dsimp only [Pt.U, Pt.locs, Pt.cells, Pt.slots] at X8 lz8 yz8 zz8 st8 hQ8
  subst lz8 yz8 zz8
  obtain ⟨rfl, Nq8, ez8⟩ := hQ8
  have N8 := Fr.app N5 Nq8
  refine OGo.tr st8 ?_
  show OGo p.tables e below _ (T8.setTop (mkF m 41 #[.val (.int p1), .val (.int p2), .val (.int p3), .val (.int p4), .val (.int p5), .val rq1, .val rq3, .val (.ref yq5)] [rq1]))
  refine OGo.st (fun _ k_ => XS.aload X8.here hx rfl (hb hby at_41) rfl hrq1 k_) ?_
  show OGo p.tables e below _ (T8.setTop (mkF m 43 #[.val (.int p1), .val (.int p2), .val (.int p3), .val (.int p4), .val (.int p5), .val rq1, .val rq3, .val (.ref yq5)] [rq1, rq1]))
  refine OGo.st (fun _ k_ => XT.acmpNo X8.here hx rfl (hb hby at_43) rfl hrq1 hrq1 (XT.aa_ne_f rfl) k_) ?_
  show OGo p.tables e below _ (T8.setTop (mkF m 46 #[.val (.int p1), .val (.int p2), .val (.int p3), .val (.int p4), .val (.int p5), .val rq1, .val rq3, .val (.ref yq5)] []))
  refine OGo.st (fun _ k_ => XS.aload X8.here hx rfl (hb hby at_46) rfl rfl k_) ?_
  show OGo p.tables e below _ (T8.setTop (mkF m 48 #[.val (.int p1), .val (.int p2), .val (.int p3), .val (.int p4), .val (.int p5), .val rq1, .val rq3, .val (.ref yq5)] [(.ref yq5)]))
  obtain ⟨cq9, kqz9, qz9a, qz9b, qz9c⟩ := isOf hZ ez8 Eq5
  obtain ⟨_, _, ⟨T9, Lz9, kz9, nz9⟩, -, X9, ⟨Lc9, hQ9, lz9, yz9, zz9⟩, st9⟩ := X8.virtualBack hx (y := (⟨"com/example/formwright/formwright/Failure", "message", "()Lcom/example/formwright/formwright/Message;"⟩ : MethodName)) (z := (⟨"com/example/formwright/formwright/Failure", "message", "()Lcom/example/formwright/formwright/Message;"⟩ : MethodName)) hown (mvT hZ (hw _ (List.mem_of_getElem? (i := 62) rfl))) (mvT hZ (hw _ (List.mem_of_getElem? (i := 63) rfl))) (notFace_of_selects (args := #[]) (mvT hZ (hw _ (List.mem_of_getElem? (i := 65) rfl)))) (mvT hZ (hw _ (List.mem_of_getElem? (i := 65) rfl))) (mvT hZ (hw _ (List.mem_of_getElem? (i := 64) rfl))) (by decide) (backOf (W := 0) (rm13 l Z a0 hw [] yq5 T5.heap n0 (Nat.le_trans Z0 K_7.1) fq5_1) hZ (hw _ (List.mem_of_getElem? (i := 66) rfl)) (hw _ (List.mem_of_getElem? (i := 36) rfl)) (by decide) (by decide)) qz9a qz9c (g := (mkF m 48 #[.val (.int p1), .val (.int p2), .val (.int p3), .val (.int p4), .val (.int p5), .val rq1, .val rq3, .val (.ref yq5)] [(.ref yq5)])) rfl (by rw [hml]; rfl) (Steps.refl _) (argsL := []) (rest := []) (lenOf own_pd10 rfl) rfl (by show 2 * 0 + _ ≤ _; exact Nat.le_of_eq rfl) (hb hby at_48) (fun _ _ => ⟨rfl, ez8, (by decide : 13 + 0 ≤ _), (by decide : 28 + 0 ≤ _)⟩)
  dsimp only [Pt.U, Pt.locs, Pt.cells, Pt.slots] at X9 lz9 yz9 zz9 st9 hQ9
  subst lz9 yz9 zz9
  obtain ⟨rfl, Nq9, ez9⟩ := hQ9
  have N9 := Fr.app N8 Nq9
  refine OGo.tr st9 ?_
  show OGo p.tables e below _ (T9.setTop (mkF m 51 #[.val (.int p1), .val (.int p2), .val (.int p3), .val (.int p4), .val (.int p5), .val rq1, .val rq3, .val (.ref yq5)] [.null]))
  refine OGo.st (fun _ k_ => XT.nonnullNo X9.here hx rfl (hb hby at_51) rfl rfl k_) ?_
  show OGo p.tables e below _ (T9.setTop (mkF m 54 #[.val (.int p1), .val (.int p2), .val (.int p3), .val (.int p4), .val (.int p5), .val rq1, .val rq3, .val (.ref yq5)] []))
  refine OGo.st (fun _ k_ => XS.aload X9.here hx rfl (hb hby at_54) rfl rfl k_) ?_
  show OGo p.tables e below _ (T9.setTop (mkF m 56 #[.val (.int p1), .val (.int p2), .val (.int p3), .val (.int p4), .val (.int p5), .val rq1, .val rq3, .val (.ref yq5)] [(.ref yq5)]))
  obtain ⟨cq10, kqz10, qz10a, qz10b, qz10c⟩ := isOf hZ ez9 Eq5
  obtain ⟨_, _, ⟨T10, Lz10, kz10, nz10⟩, -, X10, ⟨Lc10, hQ10, lz10, yz10, zz10⟩, st10⟩ := X9.virtualBack hx (y := (⟨"com/example/formwright/formwright/Failure", "argument", "()Ljava/lang/Object;"⟩ : MethodName)) (z := (⟨"com/example/formwright/formwright/Failure", "argument", "()Ljava/lang/Object;"⟩ : MethodName)) hown (mvT hZ (hw _ (List.mem_of_getElem? (i := 67) rfl))) (mvT hZ (hw _ (List.mem_of_getElem? (i := 68) rfl))) (notFace_of_selects (args := #[]) (mvT hZ (hw _ (List.mem_of_getElem? (i := 70) rfl)))) (mvT hZ (hw _ (List.mem_of_getElem? (i := 70) rfl))) (mvT hZ (hw _ (List.mem_of_getElem? (i := 69) rfl))) (by decide) (backOf (W := 0) (rm14 l Z a0 hw [] yq5 T5.heap n0 (Nat.le_trans Z0 K_7.1) fq5_2) hZ (hw _ (List.mem_of_getElem? (i := 71) rfl)) (hw _ (List.mem_of_getElem? (i := 36) rfl)) (by decide) (by decide)) qz10a qz10c (g := (mkF m 56 #[.val (.int p1), .val (.int p2), .val (.int p3), .val (.int p4), .val (.int p5), .val rq1, .val rq3, .val (.ref yq5)] [(.ref yq5)])) rfl (by rw [hml]; rfl) (Steps.refl _) (argsL := []) (rest := []) (lenOf own_pd11 rfl) rfl (by show 2 * 0 + _ ≤ _; exact Nat.le_of_eq rfl) (hb hby at_56) (fun _ _ => ⟨rfl, ez9, (by decide : 13 + 0 ≤ _), (by decide : 28 + 0 ≤ _)⟩)
  dsimp only [Pt.U, Pt.locs, Pt.cells, Pt.slots] at X10 lz10 yz10 zz10 st10 hQ10
  subst lz10 yz10 zz10
  obtain ⟨rfl, Nq10, ez10⟩ := hQ10
  have N10 := Fr.app N9 Nq10
  refine OGo.tr st10 ?_
  show OGo p.tables e below _ (T10.setTop (mkF m 59 #[.val (.int p1), .val (.int p2), .val (.int p3), .val (.int p4), .val (.int p5), .val rq1, .val rq3, .val (.ref yq5)] [.null]))
  refine OGo.st (fun _ k_ => XT.nonnullNo X10.here hx rfl (hb hby at_59) rfl rfl k_) ?_
  show OGo p.tables e below _ (T10.setTop (mkF m 62 #[.val (.int p1), .val (.int p2), .val (.int p3), .val (.int p4), .val (.int p5), .val rq1, .val rq3, .val (.ref yq5)] []))
  refine OGo.st (fun _ k_ => XS.aload X10.here hx rfl (hb hby at_62) rfl rfl k_) ?_
  show OGo p.tables e below _ (T10.setTop (mkF m 64 #[.val (.int p1), .val (.int p2), .val (.int p3), .val (.int p4), .val (.int p5), .val rq1, .val rq3, .val (.ref yq5)] [(.ref yq5)]))
  obtain ⟨cq11, kqz11, qz11a, qz11b, qz11c⟩ := isOf hZ ez10 Eq5
  obtain ⟨_, _, ⟨T11, Lz11, kz11, nz11⟩, -, X11, ⟨Lc11, hQ11, lz11, yz11, zz11⟩, st11⟩ := X10.virtualBack hx (y := (⟨"com/example/formwright/formwright/Failure", "text", "()Ljava/lang/String;"⟩ : MethodName)) (z := (⟨"com/example/formwright/formwright/Failure", "text", "()Ljava/lang/String;"⟩ : MethodName)) hown (mvT hZ (hw _ (List.mem_of_getElem? (i := 72) rfl))) (mvT hZ (hw _ (List.mem_of_getElem? (i := 73) rfl))) (notFace_of_selects (args := #[]) (mvT hZ (hw _ (List.mem_of_getElem? (i := 75) rfl)))) (mvT hZ (hw _ (List.mem_of_getElem? (i := 75) rfl))) (mvT hZ (hw _ (List.mem_of_getElem? (i := 74) rfl))) (by decide) (backOf (W := 0) (rm15 l Z a0 hw [] yq5 rq3 T5.heap n0 (Nat.le_trans Z0 K_7.1) hrq3 fq5_3) hZ (hw _ (List.mem_of_getElem? (i := 76) rfl)) (hw _ (List.mem_of_getElem? (i := 36) rfl)) (by decide) (by decide)) qz11a qz11c (g := (mkF m 64 #[.val (.int p1), .val (.int p2), .val (.int p3), .val (.int p4), .val (.int p5), .val rq1, .val rq3, .val (.ref yq5)] [(.ref yq5)])) rfl (by rw [hml]; rfl) (Steps.refl _) (argsL := []) (rest := []) (lenOf own_pd9 rfl) rfl (by show 2 * 0 + _ ≤ _; exact Nat.le_of_eq rfl) (hb hby at_64) (fun _ _ => ⟨rfl, ez10, (by decide : 13 + 0 ≤ _), (by decide : 28 + 0 ≤ _)⟩)
  dsimp only [Pt.U, Pt.locs, Pt.cells, Pt.slots] at X11 lz11 yz11 zz11 st11 hQ11
  subst lz11 yz11 zz11
  obtain ⟨rfl, Nq11, ez11⟩ := hQ11
  have N11 := Fr.app N10 Nq11
  refine OGo.tr st11 ?_
  show OGo p.tables e below _ (T11.setTop (mkF m 67 #[.val (.int p1), .val (.int p2), .val (.int p3), .val (.int p4), .val (.int p5), .val rq1, .val rq3, .val (.ref yq5)] [rq3]))
  refine OGo.st (fun _ k_ => XS.aload X11.here hx rfl (hb hby at_67) rfl hrq3 k_) ?_
  show OGo p.tables e below _ (T11.setTop (mkF m 69 #[.val (.int p1), .val (.int p2), .val (.int p3), .val (.int p4), .val (.int p5), .val rq1, .val rq3, .val (.ref yq5)] [rq3, rq3]))
  refine OGo.st (fun _ k_ => XT.acmpNo X11.here hx rfl (hb hby at_69) rfl hrq3 hrq3 (XT.aa_ne_f rfl) k_) ?_
  show OGo p.tables e below _ (T11.setTop (mkF m 72 #[.val (.int p1), .val (.int p2), .val (.int p3), .val (.int p4), .val (.int p5), .val rq1, .val rq3, .val (.ref yq5)] []))
  refine OGo.st (fun _ k_ => XS.iconst X11.here hx rfl (hb hby at_72) k_) ?_
  show OGo p.tables e below _ (T11.setTop (mkF m 73 #[.val (.int p1), .val (.int p2), .val (.int p3), .val (.int p4), .val (.int p5), .val rq1, .val rq3, .val (.ref yq5)] [(.int (1 : Int32))]))
  refine OGo.st (fun _ k_ => XS.goto X11.here hx rfl (pc0 := 73) (pc' := 77) rfl (hb hby at_73) (by decide) (by decide) k_) ?_
  show OGo p.tables e below _ (T11.setTop (mkF m 77 #[.val (.int p1), .val (.int p2), .val (.int p3), .val (.int p4), .val (.int p5), .val rq1, .val rq3, .val (.ref yq5)] [(.int (1 : Int32))]))
  refine OGo.finS X11 ez11 O6 (own_EW hw) hh (v := some (.int (1 : Int32))) (fun h => by rw [Bd.returns] at h; cases h) hlk (fun fs hr => X11.ireturnOut hx Bd.returns rfl (by simp) (hb hby at_77) hr) ?_ (by decide) (by decide)
  show own_Q_rm0 Z p1 p2 p3 p4 p5 cs h0 n0 _ T11.heap _
  rw [ez11]
  exact ⟨rfl, N11⟩
set_option maxRecDepth 65536 in
set_option maxHeartbeats 40000000 in
theorem comes_1 {Post : Tables → Env → Array Value → State → Outcome → State → Prop} (hpost : ∀ tb e args s v u, (limb_1_1.after args s (.returned v) u = true ∧ limb_1_2.after args s (.returned v) u = true ∧ True) → FramedW s (.returned v) u (Jvm.fieldLocs frame_1_writes args s ++ Jvm.arrayLocs frame_1_arrays args s ++ Jvm.staticLocs frame_1_statics s) 24 1152 → Post tb e args s (.returned v) u) :
    ArmFor flags0 classFile x code maxLocals ret World_1 tables_1 room_1 Calls_1 rest_1 Pre_1 Post := by
  intro l hfl _ _ p e ha hc hk s m args below hf hA hF happ hP
  obtain ⟨hcalls, hrest, hpre⟩ := hP
  obtain ⟨-, -, -, hnamed, -, -, -, hat⟩ := (Spec.applies_iff hf).mp happ
  obtain ⟨hg, hn⟩ := and_e (Cond.before_iff.mp (show (Jvm.Cond.and given_1 narrow_1).before args s = true from hpre))
  obtain ⟨g0, r0⟩ := and_e hg
  obtain ⟨a0, r1⟩ := and_e r0
  obtain ⟨a1, r2⟩ := and_e r1
  obtain ⟨a2, r3⟩ := and_e r2
  obtain ⟨a3, r4⟩ := and_e r3
  obtain ⟨w0, w1, w2, w3, w4, rfl⟩ : ∃ w0 w1 w2 w3 w4 : Value, args = #[w0, w1, w2, w3, w4] := by
    have hs : args.size = 5 := by simpa [Cond.value, given_1] using g0
    obtain ⟨L⟩ := args
    match L, hs with
    | [w0, w1, w2, w3, w4], _ => exact ⟨w0, w1, w2, w3, w4, rfl⟩
  have hw := fun d (hd : d ∈ tables_1) => atoms_spec (ws := Jvm.Cond.code x code maxLocals ret :: tables_1) hat d (List.mem_cons_of_mem _ hd)
  have hfit : Fit s := fun {y c} hc i hi => by
    obtain ⟨ha, rfl⟩ := Array.getElem?_eq_some_iff.mp hc
    have q := List.all_eq_true.mp ((Array.all_eq_true_iff_forall_mem.mp hF) _ (Array.getElem_mem ha)) i (List.mem_range.mpr hi)
    simpa [Array.getElem?_eq_getElem hi] using q
  obtain ⟨i0, ei0⟩ := is_v a0
  obtain rfl : w0 = (.int i0) := Option.some.inj ei0
  obtain ⟨i1, ei1⟩ := is_v a1
  obtain rfl : w1 = (.int i1) := Option.some.inj ei1
  obtain ⟨i2, ei2⟩ := is_v a2
  obtain rfl : w2 = (.int i2) := Option.some.inj ei2
  obtain ⟨i3, ei3⟩ := is_v a3
  obtain rfl : w3 = (.int i3) := Option.some.inj ei3
  obtain ⟨i4, ei4⟩ := is_v r4
  obtain rfl : w4 = (.int i4) := Option.some.inj ei4
  obtain ⟨hsets, hown0⟩ := atoms_of _ (rest_1_c_eq ▸ (show rest_1_c.before _ s = true from hrest))
  obtain ⟨cs, ecs⟩ := is_v (Cond.before_iff.mp (hsets _ (List.mem_of_getElem? (i := 1) rfl)))
  have S_cs : Sta s s.heap "java/lang/String" "COMPACT_STRINGS" "Z" (.int cs) := Sta.start ecs (Or.inl (hsets _ (List.mem_of_getElem? (i := 0) rfl)))
  have hcs : ¬ (cs = (0 : Int32)) := gotF (Cond.eq_ints ecs (Term.int_eval (0))) (not_v (Cond.before_iff.mp (hsets _ (List.mem_of_getElem? (i := 2) rfl))))
  have hCH : CHv s own_EL s.vm s.heap := CHv.start (own_EW hw) (fun q hq => hcalls.1 q hq) (hsets _ (List.mem_of_getElem? (i := 2) rfl)) (hw _ (List.mem_of_getElem? (i := 23) rfl)) (hw _ (List.mem_of_getElem? (i := 5) rfl))
  obtain ⟨n, o, h1, h2, h3, _, L, rfl, ⟨rfl, N⟩, -, hq⟩ := rm0 l s _ hw tables_1 i0 i1 i2 i3 i4 cs s.heap s.heap.size (Nat.le_refl _) S_cs hcs p e ha hc hk s m _ below hf ((Spec.applies_iff_loose hf).mp happ).1 ⟨rfl, State.Warmed39.refl s, rfl, hCH, all0⟩ trivial
  refine ⟨n, _, h1, h2, h3, hpost _ _ _ _ _ _ ⟨Cond.after_iff.mpr rfl, Cond.after_iff.mpr (eq_i res_at (Term.int_eval (1)) rfl), trivial⟩ ⟨hq.1, hq.2.1, hq.2.2.1, (hq.2.2.2.sift fun y hy => Or.inr (N y hy)).mono (by decide) (by decide)⟩⟩
theorem main_1_1 : Claimed_1_1 := comes_1 fun _ _ _ _ _ _ h hF => ⟨h.1, hF⟩
theorem main_1_2 : Claimed_1_2 := comes_1 fun _ _ _ _ _ _ h hF => ⟨h.2.1, hF⟩
end Jvm.Pilot.@@N@@
namespace Jvm.Pilot.@@N@@
open Jvm Jvm.ClassFile Sem Op Lib Jvm.Free Jvm.Stand Jvm.Pilot.@@N@@.Jvm.D
/-! MADE BY PROGRAM (witnessworld.py) out of the Statement's table words and the real class files: 21 classes; the members and pool entries that the words name. The judged class is class 1, her method 2. -/
namespace start1
open Jvm.ClassFile
def u (s : String) : CpInfo := .utf8 (stringToUtf16 s)
/-- a pool by its gaps: so many unusable entries, then the entry; so many at the end -/
def gap : Nat → List CpInfo → List CpInfo
  | 0, r => r
  | n + 1, r => .unusable :: gap n r
def poolList (es : List (Nat × CpInfo)) (last : Nat) : List CpInfo := es.foldr (fun e r => gap e.1 (e.2 :: r)) (gap last [])
def pool (es : List (Nat × CpInfo)) (last : Nat) : Array CpInfo := ⟨poolList es last⟩
def fileOf (pool : Array CpInfo) (this : Nat) (attrs : Array Attribute := #[]) (ms : Array MethodInfo := #[]) (fl : Nat := 33) (sup : Nat := 0) (ifs : Array Nat := #[]) (fds : Array FieldInfo := #[]) : ClassFile where
  minorVersion := 0
  majorVersion := 65
  constantPool := pool
  accessFlags := fl
  thisClass := this
  superClass := sup
  interfaces := ifs
  fields := fds
  methods := ms
  attributes := attrs
def plain (name : String) (sup : Option ClassId) : Class where
  name := name
  kind := .ordinary
  loader := none
  accessFlags := 33
  super := sup
  interfaces := #[]
  cf := none
  fields := #[]
  methods := #[]
  instanceTypes := #[]
  staticTypes := #[]
  resolved := #[]
  callSites := []
  init := .initialized
  statics := none
  mirror := none

def pool0 : Array CpInfo := pool [(5, u "<init>"), (0, u "()V"), (1, .class_ 10), (1, u "java/lang/Object")] 113

def k0c0 : Code := { maxStack := 0, maxLocals := 1, code := object_method_1_code, exceptionTable := #[], attributes := #[] }
def k0m0 : Method := { name := "<init>", desc := "()V", sig := { parameters := [], returnType := none }, accessFlags := 1, code := some k0c0 }
/-- java/lang/Object -/
def k0 : Class := { plain "java/lang/Object" none with
  accessFlags := 33
  interfaces := #[]
  cf := some (fileOf pool0 8 #[] #[{ accessFlags := 1, nameIndex := 5, descriptorIndex := 6, attributes := #[] }] 33 0 #[] #[])
  fields := #[]
  methods := #[k0m0]
  instanceTypes := #[]
  staticTypes := #[]
  resolved := Array.replicate 124 none
  statics := none }

def pool1 : Array CpInfo := pool [(2, .class_ 4), (1, u "java/lang/Object"), (0, u "<init>"), (0, u "()V"), (0, .class_ 8), (0, u "java/lang/String"), (0, .methodref 7 10), (0, .nameAndType 5 11), (0, u "([C)V"), (0, .methodref 13 14), (0, .class_ 15), (0, .nameAndType 16 17), (0, u "com/example/formwright/formwright/FailureOwnPinLaw"), (0, u "draw"), (0, u "(III)Ljava/lang/String;"), (0, .methodref 19 20), (0, .class_ 21), (0, .nameAndType 22 23), (0, u "com/example/formwright/formwright/Failure"), (0, u "own"), (0, u "(Ljava/lang/String;Ljava/lang/String;)Lcom/example/formwright/formwright/Failure;"), (0, .methodref 19 25), (0, .nameAndType 26 27), (0, u "rule"), (0, u "()Ljava/lang/String;"), (0, .methodref 19 29), (0, .nameAndType 30 31), (0, u "message"), (0, u "()Lcom/example/formwright/formwright/Message;"), (0, .methodref 19 33), (0, .nameAndType 34 35), (0, u "argument"), (0, u "()Ljava/lang/Object;"), (0, .methodref 19 37), (0, .nameAndType 38 27), (0, u "text"), (3, u "law"), (0, u "(IIIII)Z")] 2

def k1m0 : Method := { name := "<init>", desc := "()V", sig := { parameters := [], returnType := none }, accessFlags := 1, code := none }
def k1c1 : Code := { maxStack := 7, maxLocals := 3, code := method_2_code, exceptionTable := #[], attributes := #[] }
def k1m1 : Method := { name := "draw", desc := "(III)Ljava/lang/String;", sig := { parameters := [.int, .int, .int], returnType := some (.object "java/lang/String") }, accessFlags := 10, code := some k1c1 }
def k1c2 : Code := { maxStack := 3, maxLocals := 8, code := code, exceptionTable := #[], attributes := #[] }
def k1m2 : Method := { name := "law", desc := "(IIIII)Z", sig := { parameters := [.int, .int, .int, .int, .int], returnType := some .boolean }, accessFlags := 9, code := some k1c2 }
/-- com/example/formwright/formwright/FailureOwnPinLaw -/
def k1 : Class := { plain "com/example/formwright/formwright/FailureOwnPinLaw" (some 0) with
  accessFlags := 49
  interfaces := #[]
  cf := some (fileOf pool1 13 #[] #[{ accessFlags := 1, nameIndex := 5, descriptorIndex := 6, attributes := #[] }, { accessFlags := 10, nameIndex := 16, descriptorIndex := 17, attributes := #[] }, { accessFlags := 9, nameIndex := 42, descriptorIndex := 43, attributes := #[] }] 49 2 #[] #[])
  fields := #[]
  methods := #[k1m0, k1m1, k1m2]
  instanceTypes := #[]
  staticTypes := #[]
  resolved := Array.replicate 46 none
  statics := none }

def pool2 : Array CpInfo := pool [(1, .class_ 2), (0, u "java/io/Serializable"), (0, .class_ 4), (0, u "java/lang/Object")] 2

/-- java/io/Serializable -/
def k2 : Class := { plain "java/io/Serializable" (some 0) with
  accessFlags := 1537
  interfaces := #[]
  cf := some (fileOf pool2 1 #[] #[] 1537 3 #[] #[])
  fields := #[]
  methods := #[]
  instanceTypes := #[]
  staticTypes := #[]
  resolved := Array.replicate 7 none
  statics := none }

def pool3 : Array CpInfo := pool [(1, .class_ 2), (0, u "java/lang/Comparable"), (0, .class_ 4), (0, u "java/lang/Object")] 7

/-- java/lang/Comparable -/
def k3 : Class := { plain "java/lang/Comparable" (some 0) with
  accessFlags := 1537
  interfaces := #[]
  cf := some (fileOf pool3 1 #[] #[] 1537 3 #[] #[])
  fields := #[]
  methods := #[]
  instanceTypes := #[]
  staticTypes := #[]
  resolved := Array.replicate 12 none
  statics := none }

def pool4 : Array CpInfo := pool [(2, .class_ 4), (1, u "java/lang/CharSequence"), (42, .class_ 48), (0, u "java/lang/CharSequence$1CodePointIterator"), (10, .class_ 60), (0, u "java/lang/CharSequence$1CharIterator"), (5, .class_ 67), (0, u "java/lang/Object")] 63

/-- java/lang/CharSequence -/
def k4 : Class := { plain "java/lang/CharSequence" (some 0) with
  accessFlags := 1537
  interfaces := #[]
  cf := some (fileOf pool4 2 #[.nestMembers #[47, 59]] #[] 1537 66 #[] #[])
  fields := #[]
  methods := #[]
  instanceTypes := #[]
  staticTypes := #[]
  resolved := Array.replicate 131 none
  statics := none }

def pool5 : Array CpInfo := pool [(1, .class_ 2), (0, u "java/lang/constant/Constable"), (0, .class_ 4), (0, u "java/lang/Object")] 6

/-- java/lang/constant/Constable -/
def k5 : Class := { plain "java/lang/constant/Constable" (some 0) with
  accessFlags := 1537
  interfaces := #[]
  cf := some (fileOf pool5 1 #[] #[] 1537 3 #[] #[])
  fields := #[]
  methods := #[]
  instanceTypes := #[]
  staticTypes := #[]
  resolved := Array.replicate 11 none
  statics := none }

def pool6 : Array CpInfo := pool [(1, .class_ 2), (0, u "java/lang/constant/ConstantDesc"), (0, .class_ 4), (0, u "java/lang/Object")] 32

/-- java/lang/constant/ConstantDesc -/
def k6 : Class := { plain "java/lang/constant/ConstantDesc" (some 0) with
  accessFlags := 1537
  interfaces := #[]
  cf := some (fileOf pool6 1 #[] #[] 1537 3 #[] #[])
  fields := #[]
  methods := #[]
  instanceTypes := #[]
  staticTypes := #[]
  resolved := Array.replicate 37 none
  statics := none }

def pool7 : Array CpInfo := pool [(1, .methodref 2 3), (0, .class_ 4), (0, .nameAndType 5 6), (0, u "java/lang/Object"), (0, u "<init>"), (0, u "()V"), (0, .string 8), (0, u ""), (0, .fieldref 10 11), (0, .class_ 12), (0, .nameAndType 13 14), (0, u "java/lang/String"), (0, u "value"), (0, u "[B"), (0, .fieldref 10 16), (0, .nameAndType 17 18), (0, u "coder"), (0, u "B"), (2, u "hash"), (0, u "I"), (2, u "hashIsZero"), (0, u "Z"), (0, .methodref 10 28), (0, .nameAndType 5 29), (0, u "([CIILjava/lang/Void;)V"), (8, .fieldref 10 39), (0, .nameAndType 40 26), (0, u "COMPACT_STRINGS"), (1, .class_ 44), (1, u "java/lang/StringUTF16"), (0, u "compress"), (1, .methodref 42 48), (0, .nameAndType 49 50), (0, u "coderFromArrayLen"), (0, u "([BI)B"), (126, .methodref 42 178), (0, .nameAndType 45 179), (0, u "([CII)[B"), (395, .class_ 576), (0, u "java/lang/CharSequence"), (22, u "CASE_INSENSITIVE_ORDER"), (0, u "Ljava/util/Comparator;"), (409, u "([C)V"), (90, u "serialPersistentFields"), (0, u "[Ljava/io/ObjectStreamField;"), (0, .class_ 1104), (0, u "java/lang/String$CaseInsensitiveComparator"), (1, .class_ 1107), (0, u "java/io/Serializable"), (0, .class_ 1109), (0, u "java/lang/Comparable"), (0, .class_ 1111), (0, u "java/lang/constant/Constable"), (0, .class_ 1113), (0, u "java/lang/constant/ConstantDesc"), (2, u "serialVersionUID"), (0, u "J"), (3, u "REPL"), (0, u "C"), (2, u "LATIN1"), (1, u "UTF16")] 323

def k7m0 : Method := { name := "<init>", desc := "()V", sig := { parameters := [], returnType := none }, accessFlags := 1, code := none }
def k7c1 : Code := { maxStack := 5, maxLocals := 2, code := jdk_42_method_3_code, exceptionTable := #[], attributes := #[] }
def k7m1 : Method := { name := "<init>", desc := "([C)V", sig := { parameters := [(.array .char)], returnType := none }, accessFlags := 1, code := some k7c1 }
def k7c2 : Code := { maxStack := 4, maxLocals := 6, code := jdk_42_method_149_code, exceptionTable := #[], attributes := #[] }
def k7m2 : Method := { name := "<init>", desc := "([CIILjava/lang/Void;)V", sig := { parameters := [(.array .char), .int, .int, (.object "java/lang/Void")], returnType := none }, accessFlags := 2, code := some k7c2 }
/-- java/lang/String -/
def k7 : Class := { plain "java/lang/String" (some 0) with
  accessFlags := 49
  interfaces := #[2, 3, 4, 5, 6]
  cf := some (fileOf pool7 10 #[.nestMembers #[1103]] #[{ accessFlags := 1, nameIndex := 5, descriptorIndex := 6, attributes := #[] }, { accessFlags := 1, nameIndex := 5, descriptorIndex := 1010, attributes := #[] }, { accessFlags := 2, nameIndex := 5, descriptorIndex := 29, attributes := #[] }] 49 2 #[1106, 1108, 575, 1110, 1112] #[{ accessFlags := 18, nameIndex := 13, descriptorIndex := 14, attributes := #[] }, { accessFlags := 18, nameIndex := 17, descriptorIndex := 18, attributes := #[] }, { accessFlags := 2, nameIndex := 21, descriptorIndex := 22, attributes := #[] }, { accessFlags := 2, nameIndex := 25, descriptorIndex := 26, attributes := #[] }, { accessFlags := 26, nameIndex := 1116, descriptorIndex := 1117, attributes := #[] }, { accessFlags := 24, nameIndex := 40, descriptorIndex := 26, attributes := #[] }, { accessFlags := 26, nameIndex := 1101, descriptorIndex := 1102, attributes := #[] }, { accessFlags := 26, nameIndex := 1121, descriptorIndex := 1122, attributes := #[] }, { accessFlags := 25, nameIndex := 599, descriptorIndex := 600, attributes := #[] }, { accessFlags := 24, nameIndex := 1125, descriptorIndex := 18, attributes := #[] }, { accessFlags := 24, nameIndex := 1127, descriptorIndex := 18, attributes := #[] }])
  fields := #[{ name := "value", type := (.array .byte), accessFlags := 18, slot := 0, constantValue := 0 }, { name := "coder", type := .byte, accessFlags := 18, slot := 1, constantValue := 0 }, { name := "hash", type := .int, accessFlags := 2, slot := 2, constantValue := 0 }, { name := "hashIsZero", type := .boolean, accessFlags := 2, slot := 3, constantValue := 0 }, { name := "serialVersionUID", type := .long, accessFlags := 26, slot := 0, constantValue := 0 }, { name := "COMPACT_STRINGS", type := .boolean, accessFlags := 24, slot := 1, constantValue := 0 }, { name := "serialPersistentFields", type := (.array (.object "java/io/ObjectStreamField")), accessFlags := 26, slot := 2, constantValue := 0 }, { name := "REPL", type := .char, accessFlags := 26, slot := 3, constantValue := 0 }, { name := "CASE_INSENSITIVE_ORDER", type := (.object "java/util/Comparator"), accessFlags := 25, slot := 4, constantValue := 0 }, { name := "LATIN1", type := .byte, accessFlags := 24, slot := 5, constantValue := 0 }, { name := "UTF16", type := .byte, accessFlags := 24, slot := 6, constantValue := 0 }]
  methods := #[k7m0, k7m1, k7m2]
  instanceTypes := #[(.array .byte), .byte, .int, .boolean]
  staticTypes := #[.long, .boolean, (.array (.object "java/io/ObjectStreamField")), .char, (.object "java/util/Comparator"), .byte, .byte]
  resolved := Array.replicate 1451 none
  statics := some 0 }

def pool8 : Array CpInfo := pool [(6, .class_ 8), (1, u "java/lang/Object"), (0, u "<init>"), (0, u "()V"), (1, .class_ 14), (1, u "java/lang/StringUTF16"), (31, u "$assertionsDisabled"), (0, u "Z"), (13, u "HI_BYTE_SHIFT"), (0, u "I"), (2, u "LO_BYTE_SHIFT"), (49, .methodref 12 116), (0, .nameAndType 117 118), (0, u "compress"), (0, u "([CI[BII)I"), (3, u "([CII)[B"), (138, u "coderFromArrayLen"), (0, u "([BI)B"), (106, .class_ 371), (1, u "java/lang/StringUTF16$LinesSpliterator"), (58, u "MAX_LENGTH"), (196, .class_ 628), (0, u "java/lang/StringUTF16$CodePointsSpliterator"), (0, .class_ 630), (0, u "java/lang/StringUTF16$CharsSpliterator")] 4

def k8m0 : Method := { name := "<init>", desc := "()V", sig := { parameters := [], returnType := none }, accessFlags := 0, code := none }
def k8c1 : Code := { maxStack := 2, maxLocals := 2, code := jdk_52_method_15_code, exceptionTable := #[], attributes := #[] }
def k8m1 : Method := { name := "coderFromArrayLen", desc := "([BI)B", sig := { parameters := [(.array .byte), .int], returnType := some .byte }, accessFlags := 8, code := some k8c1 }
def k8c2 : Code := { maxStack := 5, maxLocals := 6, code := jdk_52_method_16_code, exceptionTable := #[], attributes := #[] }
def k8m2 : Method := { name := "compress", desc := "([CII)[B", sig := { parameters := [(.array .char), .int, .int], returnType := some (.array .byte) }, accessFlags := 9, code := some k8c2 }
def k8c3 : Code := { maxStack := 3, maxLocals := 7, code := jdk_52_method_21_code, exceptionTable := #[], attributes := #[] }
def k8m3 : Method := { name := "compress", desc := "([CI[BII)I", sig := { parameters := [(.array .char), .int, (.array .byte), .int, .int], returnType := some .int }, accessFlags := 9, code := some k8c3 }
/-- java/lang/StringUTF16 -/
def k8 : Class := { plain "java/lang/StringUTF16" (some 0) with
  accessFlags := 48
  interfaces := #[]
  cf := some (fileOf pool8 12 #[.nestMembers #[627, 629, 369]] #[{ accessFlags := 0, nameIndex := 9, descriptorIndex := 10, attributes := #[] }, { accessFlags := 8, nameIndex := 261, descriptorIndex := 262, attributes := #[] }, { accessFlags := 9, nameIndex := 117, descriptorIndex := 122, attributes := #[] }, { accessFlags := 9, nameIndex := 117, descriptorIndex := 118, attributes := #[] }] 48 6 #[] #[{ accessFlags := 26, nameIndex := 61, descriptorIndex := 62, attributes := #[] }, { accessFlags := 26, nameIndex := 65, descriptorIndex := 62, attributes := #[] }, { accessFlags := 24, nameIndex := 430, descriptorIndex := 62, attributes := #[] }, { accessFlags := 4120, nameIndex := 46, descriptorIndex := 47, attributes := #[] }])
  fields := #[{ name := "HI_BYTE_SHIFT", type := .int, accessFlags := 26, slot := 0, constantValue := 0 }, { name := "LO_BYTE_SHIFT", type := .int, accessFlags := 26, slot := 1, constantValue := 0 }, { name := "MAX_LENGTH", type := .int, accessFlags := 24, slot := 2, constantValue := 0 }, { name := "$assertionsDisabled", type := .boolean, accessFlags := 4120, slot := 3, constantValue := 0 }]
  methods := #[k8m0, k8m1, k8m2, k8m3]
  instanceTypes := #[]
  staticTypes := #[.int, .int, .int, .boolean]
  resolved := Array.replicate 635 none
  statics := none }

def pool9 : Array CpInfo := pool [(1, .methodref 2 3), (0, .class_ 4), (0, .nameAndType 5 6), (0, u "java/lang/Object"), (0, u "<init>"), (0, u "()V"), (0, .class_ 8), (0, u "java/lang/Record")] 13

def k9c0 : Code := { maxStack := 1, maxLocals := 1, code := jdk_30_method_1_code, exceptionTable := #[], attributes := #[] }
def k9m0 : Method := { name := "<init>", desc := "()V", sig := { parameters := [], returnType := none }, accessFlags := 4, code := some k9c0 }
/-- java/lang/Record -/
def k9 : Class := { plain "java/lang/Record" (some 0) with
  accessFlags := 1057
  interfaces := #[]
  cf := some (fileOf pool9 7 #[] #[{ accessFlags := 4, nameIndex := 5, descriptorIndex := 6, attributes := #[] }] 1057 2 #[] #[])
  fields := #[]
  methods := #[k9m0]
  instanceTypes := #[]
  staticTypes := #[]
  resolved := Array.replicate 22 none
  statics := none }

def pool10 : Array CpInfo := pool [(1, .methodref 2 3), (0, .class_ 4), (0, .nameAndType 5 6), (0, u "java/lang/Record"), (0, u "<init>"), (0, u "()V"), (0, .fieldref 8 9), (0, .class_ 10), (0, .nameAndType 11 12), (0, u "com/example/formwright/formwright/Failure"), (0, u "rule"), (0, u "Ljava/lang/String;"), (0, .fieldref 8 14), (0, .nameAndType 15 16), (0, u "message"), (0, u "Lcom/example/formwright/formwright/Message;"), (0, .fieldref 8 18), (0, .nameAndType 19 20), (0, u "argument"), (0, u "Ljava/lang/Object;"), (0, .fieldref 8 22), (0, .nameAndType 23 12), (0, u "text"), (4, u "()Ljava/lang/String;"), (0, .methodref 8 30), (0, .nameAndType 5 31), (0, u "(Ljava/lang/String;Lcom/example/formwright/formwright/Message;Ljava/lang/Object;Ljava/lang/String;)V"), (17, u "own"), (0, u "(Ljava/lang/String;Ljava/lang/String;)Lcom/example/formwright/formwright/Failure;"), (2, u "()Lcom/example/formwright/formwright/Message;"), (0, u "()Ljava/lang/Object;")] 23

def k10c0 : Code := { maxStack := 2, maxLocals := 5, code := prog_13_method_1_code, exceptionTable := #[], attributes := #[] }
def k10m0 : Method := { name := "<init>", desc := "(Ljava/lang/String;Lcom/example/formwright/formwright/Message;Ljava/lang/Object;Ljava/lang/String;)V", sig := { parameters := [(.object "java/lang/String"), (.object "com/example/formwright/formwright/Message"), (.object "java/lang/Object"), (.object "java/lang/String")], returnType := none }, accessFlags := 0, code := some k10c0 }
def k10c1 : Code := { maxStack := 6, maxLocals := 2, code := prog_13_method_3_code, exceptionTable := #[], attributes := #[] }
def k10m1 : Method := { name := "own", desc := "(Ljava/lang/String;Ljava/lang/String;)Lcom/example/formwright/formwright/Failure;", sig := { parameters := [(.object "java/lang/String"), (.object "java/lang/String")], returnType := some (.object "com/example/formwright/formwright/Failure") }, accessFlags := 8, code := some k10c1 }
def k10c2 : Code := { maxStack := 1, maxLocals := 1, code := prog_13_method_7_code, exceptionTable := #[], attributes := #[] }
def k10m2 : Method := { name := "rule", desc := "()Ljava/lang/String;", sig := { parameters := [], returnType := some (.object "java/lang/String") }, accessFlags := 1, code := some k10c2 }
def k10c3 : Code := { maxStack := 1, maxLocals := 1, code := prog_13_method_8_code, exceptionTable := #[], attributes := #[] }
def k10m3 : Method := { name := "message", desc := "()Lcom/example/formwright/formwright/Message;", sig := { parameters := [], returnType := some (.object "com/example/formwright/formwright/Message") }, accessFlags := 1, code := some k10c3 }
def k10c4 : Code := { maxStack := 1, maxLocals := 1, code := prog_13_method_9_code, exceptionTable := #[], attributes := #[] }
def k10m4 : Method := { name := "argument", desc := "()Ljava/lang/Object;", sig := { parameters := [], returnType := some (.object "java/lang/Object") }, accessFlags := 1, code := some k10c4 }
def k10c5 : Code := { maxStack := 1, maxLocals := 1, code := prog_13_method_10_code, exceptionTable := #[], attributes := #[] }
def k10m5 : Method := { name := "text", desc := "()Ljava/lang/String;", sig := { parameters := [], returnType := some (.object "java/lang/String") }, accessFlags := 1, code := some k10c5 }
/-- com/example/formwright/formwright/Failure -/
def k10 : Class := { plain "com/example/formwright/formwright/Failure" (some 9) with
  accessFlags := 48
  interfaces := #[]
  cf := some (fileOf pool10 8 #[] #[{ accessFlags := 0, nameIndex := 5, descriptorIndex := 31, attributes := #[] }, { accessFlags := 8, nameIndex := 49, descriptorIndex := 50, attributes := #[] }, { accessFlags := 1, nameIndex := 11, descriptorIndex := 28, attributes := #[] }, { accessFlags := 1, nameIndex := 15, descriptorIndex := 53, attributes := #[] }, { accessFlags := 1, nameIndex := 19, descriptorIndex := 54, attributes := #[] }, { accessFlags := 1, nameIndex := 23, descriptorIndex := 28, attributes := #[] }] 48 2 #[] #[{ accessFlags := 18, nameIndex := 11, descriptorIndex := 12, attributes := #[] }, { accessFlags := 18, nameIndex := 15, descriptorIndex := 16, attributes := #[] }, { accessFlags := 18, nameIndex := 19, descriptorIndex := 20, attributes := #[] }, { accessFlags := 18, nameIndex := 23, descriptorIndex := 12, attributes := #[] }])
  fields := #[{ name := "rule", type := (.object "java/lang/String"), accessFlags := 18, slot := 0, constantValue := 0 }, { name := "message", type := (.object "com/example/formwright/formwright/Message"), accessFlags := 18, slot := 1, constantValue := 0 }, { name := "argument", type := (.object "java/lang/Object"), accessFlags := 18, slot := 2, constantValue := 0 }, { name := "text", type := (.object "java/lang/String"), accessFlags := 18, slot := 3, constantValue := 0 }]
  methods := #[k10m0, k10m1, k10m2, k10m3, k10m4, k10m5]
  instanceTypes := #[(.object "java/lang/String"), (.object "com/example/formwright/formwright/Message"), (.object "java/lang/Object"), (.object "java/lang/String")]
  staticTypes := #[]
  resolved := Array.replicate 78 none
  statics := none }

def pool11 : Array CpInfo := pool [(4, .class_ 6), (1, u "java/lang/Object"), (0, u "<init>"), (0, u "()V"), (5, .class_ 16), (1, u "java/lang/StringLatin1"), (104, u "$assertionsDisabled"), (0, u "Z"), (98, .class_ 223), (1, u "java/lang/StringLatin1$LinesSpliterator"), (166, .class_ 391), (0, u "java/lang/StringLatin1$CharsSpliterator")] 3

def k11m0 : Method := { name := "<init>", desc := "()V", sig := { parameters := [], returnType := none }, accessFlags := 0, code := none }
/-- java/lang/StringLatin1 -/
def k11 : Class := { plain "java/lang/StringLatin1" (some 0) with
  accessFlags := 48
  interfaces := #[]
  cf := some (fileOf pool11 14 #[.nestMembers #[390, 221]] #[{ accessFlags := 0, nameIndex := 7, descriptorIndex := 8, attributes := #[] }] 48 4 #[] #[{ accessFlags := 4120, nameIndex := 121, descriptorIndex := 122, attributes := #[] }])
  fields := #[{ name := "$assertionsDisabled", type := .boolean, accessFlags := 4120, slot := 0, constantValue := 0 }]
  methods := #[k11m0]
  instanceTypes := #[]
  staticTypes := #[.boolean]
  resolved := Array.replicate 395 none
  statics := none }

def pool12 : Array CpInfo := pool [(2, .class_ 4), (1, u "java/lang/Object"), (0, u "<init>"), (0, u "()V"), (17, .class_ 26), (1, u "jdk/internal/util/Preconditions"), (28, .class_ 56), (0, u "jdk/internal/util/Preconditions$4"), (57, .class_ 115), (0, u "jdk/internal/util/Preconditions$1"), (7, u "SIOOBE_FORMATTER"), (0, u "Ljava/util/function/BiFunction;"), (0, .class_ 126), (0, u "jdk/internal/util/Preconditions$2"), (3, u "AIOOBE_FORMATTER"), (0, .class_ 132), (0, u "jdk/internal/util/Preconditions$3"), (3, u "IOOBE_FORMATTER")] 57

def k12m0 : Method := { name := "<init>", desc := "()V", sig := { parameters := [], returnType := none }, accessFlags := 1, code := none }
/-- jdk/internal/util/Preconditions -/
def k12 : Class := { plain "jdk/internal/util/Preconditions" (some 0) with
  accessFlags := 33
  interfaces := #[]
  cf := some (fileOf pool12 24 #[.nestMembers #[55, 131, 125, 114]] #[{ accessFlags := 1, nameIndex := 5, descriptorIndex := 6, attributes := #[] }] 33 2 #[] #[{ accessFlags := 25, nameIndex := 123, descriptorIndex := 124, attributes := #[] }, { accessFlags := 25, nameIndex := 130, descriptorIndex := 124, attributes := #[] }, { accessFlags := 25, nameIndex := 136, descriptorIndex := 124, attributes := #[] }])
  fields := #[{ name := "SIOOBE_FORMATTER", type := (.object "java/util/function/BiFunction"), accessFlags := 25, slot := 0, constantValue := 0 }, { name := "AIOOBE_FORMATTER", type := (.object "java/util/function/BiFunction"), accessFlags := 25, slot := 1, constantValue := 0 }, { name := "IOOBE_FORMATTER", type := (.object "java/util/function/BiFunction"), accessFlags := 25, slot := 2, constantValue := 0 }]
  methods := #[k12m0]
  instanceTypes := #[]
  staticTypes := #[(.object "java/util/function/BiFunction"), (.object "java/util/function/BiFunction"), (.object "java/util/function/BiFunction")]
  resolved := Array.replicate 194 none
  statics := some 1 }

def pool13 : Array CpInfo := pool [(9, u "<init>"), (6, .class_ 18), (1, u "java/lang/Object"), (0, u "()V"), (1, .class_ 23), (1, u "jdk/internal/util/ArraysSupport"), (0, u "LOG2_ARRAY_LONG_INDEX_SCALE"), (0, u "I"), (2, u "U"), (0, u "Ljdk/internal/misc/Unsafe;"), (8, u "BIG_ENDIAN"), (0, u "Z"), (8, u "LOG2_BYTE_BIT_SIZE"), (4, u "LOG2_ARRAY_INT_INDEX_SCALE"), (54, u "JLA"), (0, u "Ljdk/internal/access/JavaLangAccess;"), (11, u "LOG2_ARRAY_BOOLEAN_INDEX_SCALE"), (9, u "LOG2_ARRAY_BYTE_INDEX_SCALE"), (5, u "LOG2_ARRAY_CHAR_INDEX_SCALE"), (5, u "LOG2_ARRAY_SHORT_INDEX_SCALE"), (18, u "LOG2_ARRAY_FLOAT_INDEX_SCALE"), (24, u "LOG2_ARRAY_DOUBLE_INDEX_SCALE"), (89, u "T_BOOLEAN"), (2, u "T_CHAR"), (1, u "T_FLOAT"), (1, u "T_DOUBLE"), (1, u "T_BYTE"), (1, u "T_SHORT"), (1, u "T_INT"), (1, u "T_LONG"), (1, u "SOFT_MAX_ARRAY_LENGTH")] 83

def k13m0 : Method := { name := "<init>", desc := "()V", sig := { parameters := [], returnType := none }, accessFlags := 2, code := none }
/-- jdk/internal/util/ArraysSupport -/
def k13 : Class := { plain "jdk/internal/util/ArraysSupport" (some 0) with
  accessFlags := 33
  interfaces := #[]
  cf := some (fileOf pool13 21 #[] #[{ accessFlags := 2, nameIndex := 9, descriptorIndex := 19, attributes := #[] }] 33 16 #[] #[{ accessFlags := 24, nameIndex := 28, descriptorIndex := 29, attributes := #[] }, { accessFlags := 26, nameIndex := 38, descriptorIndex := 39, attributes := #[] }, { accessFlags := 25, nameIndex := 121, descriptorIndex := 25, attributes := #[] }, { accessFlags := 25, nameIndex := 131, descriptorIndex := 25, attributes := #[] }, { accessFlags := 25, nameIndex := 137, descriptorIndex := 25, attributes := #[] }, { accessFlags := 25, nameIndex := 143, descriptorIndex := 25, attributes := #[] }, { accessFlags := 25, nameIndex := 53, descriptorIndex := 25, attributes := #[] }, { accessFlags := 25, nameIndex := 24, descriptorIndex := 25, attributes := #[] }, { accessFlags := 25, nameIndex := 162, descriptorIndex := 25, attributes := #[] }, { accessFlags := 25, nameIndex := 187, descriptorIndex := 25, attributes := #[] }, { accessFlags := 26, nameIndex := 48, descriptorIndex := 25, attributes := #[] }, { accessFlags := 25, nameIndex := 277, descriptorIndex := 25, attributes := #[] }, { accessFlags := 25, nameIndex := 280, descriptorIndex := 25, attributes := #[] }, { accessFlags := 25, nameIndex := 282, descriptorIndex := 25, attributes := #[] }, { accessFlags := 25, nameIndex := 284, descriptorIndex := 25, attributes := #[] }, { accessFlags := 25, nameIndex := 286, descriptorIndex := 25, attributes := #[] }, { accessFlags := 25, nameIndex := 288, descriptorIndex := 25, attributes := #[] }, { accessFlags := 25, nameIndex := 290, descriptorIndex := 25, attributes := #[] }, { accessFlags := 25, nameIndex := 292, descriptorIndex := 25, attributes := #[] }, { accessFlags := 26, nameIndex := 108, descriptorIndex := 109, attributes := #[] }, { accessFlags := 25, nameIndex := 294, descriptorIndex := 25, attributes := #[] }])
  fields := #[{ name := "U", type := (.object "jdk/internal/misc/Unsafe"), accessFlags := 24, slot := 0, constantValue := 0 }, { name := "BIG_ENDIAN", type := .boolean, accessFlags := 26, slot := 1, constantValue := 0 }, { name := "LOG2_ARRAY_BOOLEAN_INDEX_SCALE", type := .int, accessFlags := 25, slot := 2, constantValue := 0 }, { name := "LOG2_ARRAY_BYTE_INDEX_SCALE", type := .int, accessFlags := 25, slot := 3, constantValue := 0 }, { name := "LOG2_ARRAY_CHAR_INDEX_SCALE", type := .int, accessFlags := 25, slot := 4, constantValue := 0 }, { name := "LOG2_ARRAY_SHORT_INDEX_SCALE", type := .int, accessFlags := 25, slot := 5, constantValue := 0 }, { name := "LOG2_ARRAY_INT_INDEX_SCALE", type := .int, accessFlags := 25, slot := 6, constantValue := 0 }, { name := "LOG2_ARRAY_LONG_INDEX_SCALE", type := .int, accessFlags := 25, slot := 7, constantValue := 0 }, { name := "LOG2_ARRAY_FLOAT_INDEX_SCALE", type := .int, accessFlags := 25, slot := 8, constantValue := 0 }, { name := "LOG2_ARRAY_DOUBLE_INDEX_SCALE", type := .int, accessFlags := 25, slot := 9, constantValue := 0 }, { name := "LOG2_BYTE_BIT_SIZE", type := .int, accessFlags := 26, slot := 10, constantValue := 0 }, { name := "T_BOOLEAN", type := .int, accessFlags := 25, slot := 11, constantValue := 0 }, { name := "T_CHAR", type := .int, accessFlags := 25, slot := 12, constantValue := 0 }, { name := "T_FLOAT", type := .int, accessFlags := 25, slot := 13, constantValue := 0 }, { name := "T_DOUBLE", type := .int, accessFlags := 25, slot := 14, constantValue := 0 }, { name := "T_BYTE", type := .int, accessFlags := 25, slot := 15, constantValue := 0 }, { name := "T_SHORT", type := .int, accessFlags := 25, slot := 16, constantValue := 0 }, { name := "T_INT", type := .int, accessFlags := 25, slot := 17, constantValue := 0 }, { name := "T_LONG", type := .int, accessFlags := 25, slot := 18, constantValue := 0 }, { name := "JLA", type := (.object "jdk/internal/access/JavaLangAccess"), accessFlags := 26, slot := 19, constantValue := 0 }, { name := "SOFT_MAX_ARRAY_LENGTH", type := .int, accessFlags := 25, slot := 20, constantValue := 0 }]
  methods := #[k13m0]
  instanceTypes := #[]
  staticTypes := #[(.object "jdk/internal/misc/Unsafe"), .boolean, .int, .int, .int, .int, .int, .int, .int, .int, .int, .int, .int, .int, .int, .int, .int, .int, .int, (.object "jdk/internal/access/JavaLangAccess"), .int]
  resolved := Array.replicate 378 none
  statics := none }

def pool14 : Array CpInfo := pool [(1, u "java/lang/Cloneable"), (0, .class_ 1), (0, u "java/lang/Object"), (0, .class_ 3)] 3

/-- java/lang/Cloneable -/
def k14 : Class := { plain "java/lang/Cloneable" (some 0) with
  accessFlags := 1537
  interfaces := #[]
  cf := some (fileOf pool14 2 #[] #[] 1537 4 #[] #[])
  fields := #[]
  methods := #[]
  instanceTypes := #[]
  staticTypes := #[]
  resolved := Array.replicate 8 none
  statics := none }

/-- the primitive byte -/
def k15 : Class := { plain "byte" none with kind := .primitive 'B', accessFlags := 0x411 }
/-- [B -/
def k16 : Class := { plain "[B" (some 0) with kind := .array 15 .byte, interfaces := #[14, 2], accessFlags := 1041 }

/-- the primitive char -/
def k17 : Class := { plain "char" none with kind := .primitive 'C', accessFlags := 0x411 }
/-- [C -/
def k18 : Class := { plain "[C" (some 0) with kind := .array 17 .char, interfaces := #[14, 2], accessFlags := 1041 }

/-- the primitive int -/
def k19 : Class := { plain "int" none with kind := .primitive 'I', accessFlags := 0x411 }
/-- [I -/
def k20 : Class := { plain "[I" (some 0) with kind := .array 19 .int, interfaces := #[14, 2], accessFlags := 1041 }

def heap : Heap := #[{ cls := 7, slots := #[.long 0, .int 1, .null, .int 0, .null, .int 0, .int 0], vm := .statics 7 },
  { cls := 12, slots := #[.null, .null, .null], vm := .statics 12 }]
def classes : Array Class := #[k0, k1, k2, k3, k4, k5, k6, k7, k8, k9, k10, k11, k12, k13, k14, k15, k16, k17, k18, k19, k20]
def interned : List (Array UInt16 × Addr) := []
def slotsUsed : Nat := 10
def theMethod : MethodId := ⟨1, 2⟩
def args0 : Array Value := #[.int 65, .int 66, .int 67, .int 68, .int 0]
def aboutOver (below : List Frame) : State where
  vm := { classes := classes, interned := interned.toArray }
  heap := heap
  slotsUsed := slotsUsed
  threads := #[{ frames := .invoking theMethod args0 :: below }]
def below0 : List Frame := [.native { method := ⟨0, 0⟩, args := #[] }]
def about1 : State := aboutOver below0
def p0 : Program := .bare "" "" ""
def e0 : Env := launch0.env 0 0 0
theorem w_frames : about1.frames = Frame.invoking theMethod args0 :: below0 := rfl
set_option maxRecDepth 65536 in
theorem w_args : argsFit about1.vm theMethod args0 = true := by decide +kernel
set_option maxRecDepth 65536 in
theorem w_heap : heapFits about1 = true := by decide +kernel
set_option maxRecDepth 65536 in
theorem w_runnable : about1.curStatus? = some .runnable := by decide +kernel
set_option maxRecDepth 65536 in
theorem w_alone : about1.alone = true := by decide +kernel
set_option maxRecDepth 65536 in
theorem w_named : about1.methodNamed? x = some theMethod := by decide +kernel
set_option maxRecDepth 65536 in
theorem w_hears : about1.hears theMethod below0 = true := by decide +kernel
set_option maxRecDepth 65536 in
theorem w_ripe : about1.ripe theMethod args0 below0 = true := by decide +kernel
theorem w_running : about1.status = .running := rfl
set_option maxRecDepth 65536 in
theorem w_room : about1.hasRoom e0.platform room_1 = true :=
  launch0.hasRoom_least _ room_1 (by decide +kernel) (by decide +kernel) (by decide +kernel) (by decide +kernel) (by decide +kernel) (by decide +kernel)
theorem allAtoms_all (ts : List Jvm.Cond) (a : Array Jvm.Value) (st : Jvm.State) : (allAtoms ts).before a st = ts.all (fun c => c.before a st) := by
  induction ts with
  | nil => rfl
  | cons c t ih =>
    show (Jvm.Cond.and c (allAtoms t)).before a st = _
    rw [Jvm.Cond.before_and, ih, List.all_cons]
def words1 : List Jvm.Cond := Jvm.Cond.code x code maxLocals ret :: tables_1
/-- a 'code' word, met by the world's own term for the bytes: nothing is compared byte by byte -/
theorem code_word {y : MethodName} {bytes : ByteArray} {mx : Nat} {rt : Option FieldType} {a : Array Value} {s : State} {m : MethodId} {meth : Method} {c : Code} (h1 : s.methodNamed? y = some m) (h2 : s.vm.method? m = some meth) (h3 : meth.code = some c) (h4 : c.code = bytes)
    (h5 : (c.maxLocals == mx && c.exceptionTable.isEmpty && decide (c.maxStack ≤ mostOperands) && decide (meth.sig.returnType = rt) && !meth.locks && decide (parseMethodDescriptor y.desc = some meth.sig)) = true) : (Jvm.Cond.code y bytes mx rt).before a s = true := by
  simp only [Bool.and_eq_true, beq_iff_eq, Bool.not_eq_true', decide_eq_true_eq] at h5
  obtain ⟨⟨⟨⟨⟨g1, g2⟩, g3⟩, g4⟩, g5⟩, g6⟩ := h5
  simp [Cond.before, Cond.holds, Cond.value, h1, h2, h3, h4, g1, g2, g3, g4, g5, g6]
def isCode : Jvm.Cond → Bool
  | .code _ _ _ _ => true
  | _ => false
theorem all_split {L : List Jvm.Cond} {P : Jvm.Cond → Bool} (h1 : L.all (fun c => isCode c || P c) = true) (h2 : ∀ c ∈ L.filter isCode, P c = true) : L.all P = true := by
  refine List.all_eq_true.mpr fun c hc => ?_
  have h := List.all_eq_true.mp h1 c hc
  rcases Bool.eq_false_or_eq_true (isCode c) with hi | hi
  · exact h2 c (List.mem_filter.mpr ⟨hc, hi⟩)
  · simpa [hi] using h
set_option maxRecDepth 65536 in
theorem w_c0 : (Jvm.Cond.code x code maxLocals ret).before args0 about1 = true := code_word (m := ⟨1, 2⟩) (meth := k1m2) (c := k1c2) (by decide +kernel) rfl rfl rfl (by decide +kernel)
set_option maxRecDepth 65536 in
theorem w_c1 : (Jvm.Cond.code ({ cls := "com/example/formwright/formwright/FailureOwnPinLaw", name := "draw", desc := "(III)Ljava/lang/String;" } : Jvm.MethodName) method_2_code (3 : Nat) (Option.some (Jvm.ClassFile.FieldType.object "java/lang/String"))).before args0 about1 = true := code_word (m := ⟨1, 1⟩) (meth := k1m1) (c := k1c1) (by decide +kernel) rfl rfl rfl (by decide +kernel)
set_option maxRecDepth 65536 in
theorem w_c2 : (Jvm.Cond.code ({ cls := "java/lang/String", name := "<init>", desc := "([C)V" } : Jvm.MethodName) jdk_42_method_3_code (2 : Nat) (Option.none : Option Jvm.ClassFile.FieldType)).before args0 about1 = true := code_word (m := ⟨7, 1⟩) (meth := k7m1) (c := k7c1) (by decide +kernel) rfl rfl rfl (by decide +kernel)
set_option maxRecDepth 65536 in
theorem w_c3 : (Jvm.Cond.code ({ cls := "java/lang/String", name := "<init>", desc := "([CIILjava/lang/Void;)V" } : Jvm.MethodName) jdk_42_method_149_code (6 : Nat) (Option.none : Option Jvm.ClassFile.FieldType)).before args0 about1 = true := code_word (m := ⟨7, 2⟩) (meth := k7m2) (c := k7c2) (by decide +kernel) rfl rfl rfl (by decide +kernel)
set_option maxRecDepth 65536 in
theorem w_c4 : (Jvm.Cond.code ({ cls := "java/lang/Object", name := "<init>", desc := "()V" } : Jvm.MethodName) object_method_1_code (1 : Nat) (Option.none : Option Jvm.ClassFile.FieldType)).before args0 about1 = true := code_word (m := ⟨0, 0⟩) (meth := k0m0) (c := k0c0) (by decide +kernel) rfl rfl rfl (by decide +kernel)
set_option maxRecDepth 65536 in
theorem w_c5 : (Jvm.Cond.code ({ cls := "java/lang/StringUTF16", name := "compress", desc := "([CII)[B" } : Jvm.MethodName) jdk_52_method_16_code (6 : Nat) (Option.some (Jvm.ClassFile.FieldType.array Jvm.ClassFile.FieldType.byte))).before args0 about1 = true := code_word (m := ⟨8, 2⟩) (meth := k8m2) (c := k8c2) (by decide +kernel) rfl rfl rfl (by decide +kernel)
set_option maxRecDepth 65536 in
theorem w_c6 : (Jvm.Cond.code ({ cls := "java/lang/StringUTF16", name := "compress", desc := "([CI[BII)I" } : Jvm.MethodName) jdk_52_method_21_code (7 : Nat) (Option.some Jvm.ClassFile.FieldType.int)).before args0 about1 = true := code_word (m := ⟨8, 3⟩) (meth := k8m3) (c := k8c3) (by decide +kernel) rfl rfl rfl (by decide +kernel)
set_option maxRecDepth 65536 in
theorem w_c7 : (Jvm.Cond.code ({ cls := "java/lang/StringUTF16", name := "coderFromArrayLen", desc := "([BI)B" } : Jvm.MethodName) jdk_52_method_15_code (2 : Nat) (Option.some Jvm.ClassFile.FieldType.byte)).before args0 about1 = true := code_word (m := ⟨8, 1⟩) (meth := k8m1) (c := k8c1) (by decide +kernel) rfl rfl rfl (by decide +kernel)
set_option maxRecDepth 65536 in
theorem w_c8 : (Jvm.Cond.code ({ cls := "com/example/formwright/formwright/Failure", name := "own", desc := "(Ljava/lang/String;Ljava/lang/String;)Lcom/example/formwright/formwright/Failure;" } : Jvm.MethodName) prog_13_method_3_code (2 : Nat) (Option.some (Jvm.ClassFile.FieldType.object "com/example/formwright/formwright/Failure"))).before args0 about1 = true := code_word (m := ⟨10, 1⟩) (meth := k10m1) (c := k10c1) (by decide +kernel) rfl rfl rfl (by decide +kernel)
set_option maxRecDepth 65536 in
theorem w_c9 : (Jvm.Cond.code ({ cls := "com/example/formwright/formwright/Failure", name := "<init>", desc := "(Ljava/lang/String;Lcom/example/formwright/formwright/Message;Ljava/lang/Object;Ljava/lang/String;)V" } : Jvm.MethodName) prog_13_method_1_code (5 : Nat) (Option.none : Option Jvm.ClassFile.FieldType)).before args0 about1 = true := code_word (m := ⟨10, 0⟩) (meth := k10m0) (c := k10c0) (by decide +kernel) rfl rfl rfl (by decide +kernel)
set_option maxRecDepth 65536 in
theorem w_c10 : (Jvm.Cond.code ({ cls := "java/lang/Record", name := "<init>", desc := "()V" } : Jvm.MethodName) jdk_30_method_1_code (1 : Nat) (Option.none : Option Jvm.ClassFile.FieldType)).before args0 about1 = true := code_word (m := ⟨9, 0⟩) (meth := k9m0) (c := k9c0) (by decide +kernel) rfl rfl rfl (by decide +kernel)
set_option maxRecDepth 65536 in
theorem w_c11 : (Jvm.Cond.code ({ cls := "com/example/formwright/formwright/Failure", name := "rule", desc := "()Ljava/lang/String;" } : Jvm.MethodName) prog_13_method_7_code (1 : Nat) (Option.some (Jvm.ClassFile.FieldType.object "java/lang/String"))).before args0 about1 = true := code_word (m := ⟨10, 2⟩) (meth := k10m2) (c := k10c2) (by decide +kernel) rfl rfl rfl (by decide +kernel)
set_option maxRecDepth 65536 in
theorem w_c12 : (Jvm.Cond.code ({ cls := "com/example/formwright/formwright/Failure", name := "message", desc := "()Lcom/example/formwright/formwright/Message;" } : Jvm.MethodName) prog_13_method_8_code (1 : Nat) (Option.some (Jvm.ClassFile.FieldType.object "com/example/formwright/formwright/Message"))).before args0 about1 = true := code_word (m := ⟨10, 3⟩) (meth := k10m3) (c := k10c3) (by decide +kernel) rfl rfl rfl (by decide +kernel)
set_option maxRecDepth 65536 in
theorem w_c13 : (Jvm.Cond.code ({ cls := "com/example/formwright/formwright/Failure", name := "argument", desc := "()Ljava/lang/Object;" } : Jvm.MethodName) prog_13_method_9_code (1 : Nat) (Option.some (Jvm.ClassFile.FieldType.object "java/lang/Object"))).before args0 about1 = true := code_word (m := ⟨10, 4⟩) (meth := k10m4) (c := k10c4) (by decide +kernel) rfl rfl rfl (by decide +kernel)
set_option maxRecDepth 65536 in
theorem w_c14 : (Jvm.Cond.code ({ cls := "com/example/formwright/formwright/Failure", name := "text", desc := "()Ljava/lang/String;" } : Jvm.MethodName) prog_13_method_10_code (1 : Nat) (Option.some (Jvm.ClassFile.FieldType.object "java/lang/String"))).before args0 about1 = true := code_word (m := ⟨10, 5⟩) (meth := k10m5) (c := k10c5) (by decide +kernel) rfl rfl rfl (by decide +kernel)
def codes1 : List Jvm.Cond := [Jvm.Cond.code x code maxLocals ret, Jvm.Cond.code ({ cls := "com/example/formwright/formwright/FailureOwnPinLaw", name := "draw", desc := "(III)Ljava/lang/String;" } : Jvm.MethodName) method_2_code (3 : Nat) (Option.some (Jvm.ClassFile.FieldType.object "java/lang/String")), Jvm.Cond.code ({ cls := "java/lang/String", name := "<init>", desc := "([C)V" } : Jvm.MethodName) jdk_42_method_3_code (2 : Nat) (Option.none : Option Jvm.ClassFile.FieldType), Jvm.Cond.code ({ cls := "java/lang/String", name := "<init>", desc := "([CIILjava/lang/Void;)V" } : Jvm.MethodName) jdk_42_method_149_code (6 : Nat) (Option.none : Option Jvm.ClassFile.FieldType), Jvm.Cond.code ({ cls := "java/lang/Object", name := "<init>", desc := "()V" } : Jvm.MethodName) object_method_1_code (1 : Nat) (Option.none : Option Jvm.ClassFile.FieldType), Jvm.Cond.code ({ cls := "java/lang/StringUTF16", name := "compress", desc := "([CII)[B" } : Jvm.MethodName) jdk_52_method_16_code (6 : Nat) (Option.some (Jvm.ClassFile.FieldType.array Jvm.ClassFile.FieldType.byte)), Jvm.Cond.code ({ cls := "java/lang/StringUTF16", name := "compress", desc := "([CI[BII)I" } : Jvm.MethodName) jdk_52_method_21_code (7 : Nat) (Option.some Jvm.ClassFile.FieldType.int), Jvm.Cond.code ({ cls := "java/lang/StringUTF16", name := "coderFromArrayLen", desc := "([BI)B" } : Jvm.MethodName) jdk_52_method_15_code (2 : Nat) (Option.some Jvm.ClassFile.FieldType.byte), Jvm.Cond.code ({ cls := "com/example/formwright/formwright/Failure", name := "own", desc := "(Ljava/lang/String;Ljava/lang/String;)Lcom/example/formwright/formwright/Failure;" } : Jvm.MethodName) prog_13_method_3_code (2 : Nat) (Option.some (Jvm.ClassFile.FieldType.object "com/example/formwright/formwright/Failure")), Jvm.Cond.code ({ cls := "com/example/formwright/formwright/Failure", name := "<init>", desc := "(Ljava/lang/String;Lcom/example/formwright/formwright/Message;Ljava/lang/Object;Ljava/lang/String;)V" } : Jvm.MethodName) prog_13_method_1_code (5 : Nat) (Option.none : Option Jvm.ClassFile.FieldType), Jvm.Cond.code ({ cls := "java/lang/Record", name := "<init>", desc := "()V" } : Jvm.MethodName) jdk_30_method_1_code (1 : Nat) (Option.none : Option Jvm.ClassFile.FieldType), Jvm.Cond.code ({ cls := "com/example/formwright/formwright/Failure", name := "rule", desc := "()Ljava/lang/String;" } : Jvm.MethodName) prog_13_method_7_code (1 : Nat) (Option.some (Jvm.ClassFile.FieldType.object "java/lang/String")), Jvm.Cond.code ({ cls := "com/example/formwright/formwright/Failure", name := "message", desc := "()Lcom/example/formwright/formwright/Message;" } : Jvm.MethodName) prog_13_method_8_code (1 : Nat) (Option.some (Jvm.ClassFile.FieldType.object "com/example/formwright/formwright/Message")), Jvm.Cond.code ({ cls := "com/example/formwright/formwright/Failure", name := "argument", desc := "()Ljava/lang/Object;" } : Jvm.MethodName) prog_13_method_9_code (1 : Nat) (Option.some (Jvm.ClassFile.FieldType.object "java/lang/Object")), Jvm.Cond.code ({ cls := "com/example/formwright/formwright/Failure", name := "text", desc := "()Ljava/lang/String;" } : Jvm.MethodName) prog_13_method_10_code (1 : Nat) (Option.some (Jvm.ClassFile.FieldType.object "java/lang/String"))]
set_option maxRecDepth 65536 in
theorem codes_eq : words1.filter isCode = codes1 := rfl
theorem w_codes : ∀ c ∈ words1.filter isCode, c.before args0 about1 = true := by
  rw [codes_eq]
  intro c hc
  simp only [codes1, List.mem_cons, List.not_mem_nil, or_false] at hc
  rcases hc with rfl | rfl | rfl | rfl | rfl | rfl | rfl | rfl | rfl | rfl | rfl | rfl | rfl | rfl | rfl
  · exact w_c0
  · exact w_c1
  · exact w_c2
  · exact w_c3
  · exact w_c4
  · exact w_c5
  · exact w_c6
  · exact w_c7
  · exact w_c8
  · exact w_c9
  · exact w_c10
  · exact w_c11
  · exact w_c12
  · exact w_c13
  · exact w_c14
set_option maxRecDepth 65536 in
theorem w_t1 : (words1.take 24).all (fun c => isCode c || c.before args0 about1) = true := by decide +kernel
set_option maxRecDepth 65536 in
theorem w_t2 : ((words1.drop 24).take 24).all (fun c => isCode c || c.before args0 about1) = true := by decide +kernel
set_option maxRecDepth 65536 in
theorem w_t3 : (((words1.drop 24).drop 24).take 24).all (fun c => isCode c || c.before args0 about1) = true := by decide +kernel
set_option maxRecDepth 65536 in
theorem w_t4 : (((words1.drop 24).drop 24).drop 24).all (fun c => isCode c || c.before args0 about1) = true := by decide +kernel
theorem w_tables : (allAtoms (Jvm.Cond.code x code maxLocals ret :: tables_1)).before args0 about1 = true := by
  rw [allAtoms_all]
  show words1.all (fun c => c.before args0 about1) = true
  refine all_split ?_ w_codes
  rw [← List.take_append_drop 24 words1, List.all_append, w_t1, ← List.take_append_drop 24 (words1.drop 24), List.all_append, w_t2, ← List.take_append_drop 24 ((words1.drop 24).drop 24), List.all_append, w_t3, w_t4]
  rfl
set_option maxRecDepth 65536 in
theorem w_rest : rest_1_c.before args0 about1 = true := by decide +kernel
set_option maxRecDepth 65536 in
theorem w_case : (Jvm.Cond.and given_1 narrow_1).before args0 about1 = true := by decide +kernel
set_option maxRecDepth 65536 in
theorem w_consts : constsHeld consts_1 about1 := Jvm.Lit.constsHeldB_iff.mp (by decide +kernel)
theorem w_applies : (headSpec (Jvm.Cond.code x code maxLocals ret :: tables_1) room_1).applies x e0.platform about1 = true :=
  (Spec.applies_iff w_frames).mpr ⟨w_running, w_runnable, w_alone, w_named, w_hears, w_ripe, w_room, w_tables⟩
theorem atStart : AtStart classFile x code maxLocals ret World_1 tables_1 room_1 Calls_1 rest_1 Pre_1 launch0 p0 e0 about1 theMethod args0 below0 :=
  ⟨lists_1, trivial, launch0.admits_env _ _ _, launch0.least_env, fairChoices_fair.cas, fairChoices_fair.clock, w_frames, w_args, w_heap, w_applies, ⟨w_consts, trivial⟩, w_rest, w_case⟩
end start1
theorem witness_1 : WitnessClaimed_1 := ⟨start1.p0, start1.e0, start1.about1, start1.theMethod, start1.args0, start1.below0, start1.atStart⟩
end Jvm.Pilot.@@N@@
