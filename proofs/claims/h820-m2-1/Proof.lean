import JvmDerived
import JvmDerived.Pilot.@@N@@Statement
import JvmDerived.Pilot.@@N@@Code
set_option linter.unusedVariables false
set_option linter.unusedSimpArgs false
namespace Jvm.Pilot.@@N@@
open Jvm Jvm.ClassFile Sem Op Lib Jvm.Free Jvm.Stand Jvm.LawKit Jvm.RoadKit Bundle Jvm.Pilot.@@N@@.Jvm.D
/-! the walk goes on from A and ends as P says -/
def OGo (tb : Tables) (e : Env) (below : List Frame) (P : State → Outcome → Prop) (A : State) : Prop := ∃ U o, Steps tb e below A U ∧ U.status = .running ∧ Ended U below o ∧ P U o
def OPost (s : State) (Q : Option Value → Heap → List Loc → Prop) (k n : Nat) (U : State) (o : Outcome) : Prop := ∃ v L, o = .returned v ∧ Q v U.heap L ∧ FrameEnd s o U L k n
theorem OGo.st {tb : Tables} {e : Env} {below : List Frame} {P : State → Outcome → Prop} {A B : State} (st : ∀ t, Steps tb e below B t → Steps tb e below A t) (h : OGo tb e below P B) : OGo tb e below P A := by
  obtain ⟨U, o, h1, h2⟩ := h; exact ⟨U, o, st _ h1, h2⟩
theorem OGo.tr {tb : Tables} {e : Env} {below : List Frame} {P : State → Outcome → Prop} {A B : State} (st : Steps tb e below A B) (h : OGo tb e below P B) : OGo tb e below P A := by
  obtain ⟨U, o, h1, h2⟩ := h; exact ⟨U, o, st.trans h1, h2⟩
theorem OGo.enter {tb : Tables} {e : Env} {below : List Frame} {P : State → Outcome → Prop} {T : State} {g g' : JFrame} (q : g = g') (h : OGo tb e below P (T.setTop g')) : OGo tb e below P (T.setTop g) := q ▸ h
section Own
variable {p : Program} {l : Launch} {e : Env} {R : Room} {s : State} {m : MethodId} {args : Array Value} {below : List Frame} {meth : Method} {c : Code} {T : State} {locs : List Loc} {cells slots k n : Nat} {Q : Option Value → Heap → List Loc → Prop}
theorem OGo.fin (X : Stand p l e R s m args below meth c T locs cells slots) {v : Option Value} (hv : meth.sig.returnType = none → v = none) (hlk : meth.locks = false) {g : JFrame}
    (hst : ∀ fs, (∀ (f : JFrame) (acts : List Action), f.method = m → f.locked = none → f.entered = [] → (doReturn e (T.setTop f) acts v).1 = T.setFrames fs) → Steps p.tables e below (T.setTop g) (T.setFrames fs)) (hq : Q v T.heap locs) (hk : cells ≤ k) (hn : slots ≤ n) : OGo p.tables e below (OPost s Q k n) (T.setTop g) := by
  obtain ⟨fs, hr, hrun, hended, hW, hsame⟩ := X.leave hv hlk
  exact ⟨_, _, hst fs hr, hrun, hended, _, _, rfl, hq, ⟨_, rfl⟩, hW, hsame.mono hk hn⟩
theorem own_wide (X : Stand p l e R s m args below meth c T locs cells slots) {k n : Nat} (hk : cells ≤ k) (hn : slots ≤ n) : Stand p l e R s m args below meth c T locs k n := { X with same := X.same.mono hk hn }
end Own
abbrev OMet (l : Launch) (Z : State) (y : MethodName) (code : ByteArray) (ml : Nat) (ret : Option FieldType) (ws : List Jvm.Cond) (rm : Room) (as : Array Value) (h0 : Heap) (Q : Option Value → Heap → List Loc → Prop) : Prop :=
  MetFree l y (head1 (Jvm.Cond.code y code ml ret :: ws) rm) (fun a U => a = as ∧ Z.Warmed39 U.vm ∧ U.heap = h0) (fun _ _ _ _ _ => True) (fun _ U o U' => ∃ v L, o = .returned v ∧ Q v U'.heap L ∧ FrameEnd U o U' L rm.cells rm.slots)
def Arf (Z : State) (h : Heap) (a : Addr) (k : ClassId) (ty : FieldType) (n : Int32) (f : Nat → Value) : Prop := ∃ c : Cell, Arr Z h a c ty ∧ c.cls = k ∧ c.slots.size = n.toNatClampNeg ∧ ¬ n < 0 ∧ (∀ i, i < c.slots.size → c.slots[i]? = some (f i)) ∧ ∀ i, i < c.slots.size → fits ty (f i) = true
def own_upd (f : Nat → Value) (j : Nat) (v : Value) : Nat → Value := fun i => if i = j then v else f i
section OwnArr
variable {p : Program} {l : Launch} {e : Env} {R : Room} {s : State} {m : MethodId} {args : Array Value} {below : List Frame} {meth : Method} {c : Code} {T : State} {locs : List Loc} {cells slots : Nat} {Z : State} {h h' : Heap} {a b : Addr} {k : ClassId} {ty : FieldType} {n j : Int32} {f f' : Nat → Value} {sl : Nat} {v : Value} {ws : List Addr}
theorem Arf.lt (F : Arf Z h a k ty n f) : a < h.size := by obtain ⟨c, A, _⟩ := F; exact A.lt
theorem Arf.ext (F : Arf Z h a k ty n f) (E : Ext h h') : Arf Z h' a k ty n f := by obtain ⟨c, A, r⟩ := F; exact ⟨c, A.ext E, r⟩
theorem Arf.other (F : Arf Z h b k ty n f) (W : Wr h h' a sl v) (q : b ≠ a) : Arf Z h' b k ty n f := by obtain ⟨c, A, r⟩ := F; exact ⟨c, A.other W q, r⟩
theorem Arf.keep (F : Arf Z h a k ty n f) (K : Keep h h' ws) (q : a ∉ ws) : Arf Z h' a k ty n f := by obtain ⟨c, A, r⟩ := F; exact ⟨c, ⟨K.2.1 a c A.1 q, A.2⟩, r⟩
theorem Arf.pos (F : Arf Z h a k ty n f) : ¬ n < 0 := by obtain ⟨c, A, h1, h2, h3, -⟩ := F; exact h3
theorem Arf.congr (F : Arf Z h a k ty n f) (q : ∀ i, i < n.toNatClampNeg → f i = f' i) : Arf Z h a k ty n f' := by
  obtain ⟨c, A, h1, h2, h3, H, G⟩ := F
  exact ⟨c, A, h1, h2, h3, fun i hi => by rw [H i hi, q i (h2 ▸ hi)], fun i hi => by rw [← q i (h2 ▸ hi)]; exact G i hi⟩
theorem own_new (A : Arr Z h a (newA k ty n) ty) (q : ¬ n < 0) : Arf Z h a k ty n (fun _ => defaultValue ty) := by
  obtain ⟨c, A', h1, h2, h3, H, G⟩ := Arv.new A q
  exact ⟨c, A', h1, h2, h3, fun i hi => by have := H i hi; simpa using this, fun i hi => by have := G i hi; simpa using this⟩
theorem own_set (F : Arf Z h a k ty n f) (hv : fits ty v = true) {jj : Nat} (W : Wr h h' a jj v) : Arf Z h' a k ty n (own_upd f jj v) := by
  obtain ⟨c, A, h1, h2, h3, H, G⟩ := F
  have hj : jj < c.slots.size := by obtain ⟨c', w1, -, w3, -⟩ := W; cases w1.symm.trans A.1; exact w3
  refine ⟨c.setSlot jj v, A.same W, h1, by simpa [Cell.setSlot] using h2, h3, fun i hi => ?_, fun i hi => ?_⟩
  · have hi' : i < c.slots.size := by simpa [Cell.setSlot] using hi
    by_cases q : i = jj
    · subst q; simp [Cell.setSlot, own_upd, hi']
    · have := H i hi'; simp only [own_upd, if_neg q]; rw [← this]; exact Array.getElem?_setIfInBounds_ne (Ne.symm q)
  · have hi' : i < c.slots.size := by simpa [Cell.setSlot] using hi
    by_cases q : i = jj
    · simp only [own_upd, if_pos q]; exact hv
    · simp only [own_upd, if_neg q]; exact G i hi'
theorem own_alen (X : Stand p l e R s m args below meth c T locs cells slots) (hx : p.tables.exec = Jvm.exec) (hZ : Z.Warmed39 s.vm) (eT : T.heap = h) (F : Arf Z h a k ty n f) {g : JFrame} (hg : g.method = m) {rest : List Value} (hs : g.stack = .ref a :: rest) (hd : decode c.code g.pc = .ok (.arraylength, 1)) :
    ∀ t, Steps p.tables e below (T.setTop { g with pc := g.pc + 1, stack := .int n :: rest }) t → Steps p.tables e below (T.setTop g) t := by
  obtain ⟨cl, A, h1, S, N, H, G⟩ := F
  intro t k_
  refine X.arraylength hx (by rw [eT]; exact A.1) (State.isArrayOf_alike hZ.alike A.2.1) hg hs hd t ?_
  rw [len_of S N]; exact k_
theorem own_at (S : cells = n.toNatClampNeg) (hin : ¬ j < 0 ∧ j < n) : j.toNatClampNeg < cells := by
  have h1 := nat_of hin.1
  have h2 : ¬ n < 0 := fun q => by have := hin.1; have := hin.2; rw [Int32.lt_iff_toInt_lt] at *; omega
  have h3 := nat_of h2
  have h4 := hin.2; rw [Int32.lt_iff_toInt_lt] at h4; omega
theorem own_ldI (X : Stand p l e R s m args below meth c T locs cells slots) (hx : p.tables.exec = Jvm.exec) (hZ : Z.Warmed39 s.vm) (eT : T.heap = h) (F : Arf Z h a k .int n f) {j v : Int32} (hin : ¬ j < 0 ∧ j < n) (hv : f j.toNatClampNeg = .int v) {g : JFrame} (hg : g.method = m) {rest : List Value} (hs : g.stack = .int j :: .ref a :: rest) (hd : decode c.code g.pc = .ok (.iaload, 1)) :
    ∀ t, Steps p.tables e below (T.setTop { g with pc := g.pc + 1, stack := .int v :: rest }) t → Steps p.tables e below (T.setTop g) t := by
  obtain ⟨cl, A, h1, S, N, H, G⟩ := F
  exact X.iaload hx (by rw [eT]; exact A.1) (State.isArrayOf_alike hZ.alike A.2.1) A.2.2 (inb_of S hin) (by rw [H _ (own_at S hin), hv]) hg hs hd
theorem own_ldJ (X : Stand p l e R s m args below meth c T locs cells slots) (hx : p.tables.exec = Jvm.exec) (hZ : Z.Warmed39 s.vm) (eT : T.heap = h) (F : Arf Z h a k .long n f) {j : Int32} {v : Int64} (hin : ¬ j < 0 ∧ j < n) (hv : f j.toNatClampNeg = .long v) {g : JFrame} (hg : g.method = m) {rest : List Value} (hs : g.stack = .int j :: .ref a :: rest) (hd : decode c.code g.pc = .ok (.laload, 1)) :
    ∀ t, Steps p.tables e below (T.setTop { g with pc := g.pc + 1, stack := .long v :: rest }) t → Steps p.tables e below (T.setTop g) t := by
  obtain ⟨cl, A, h1, S, N, H, G⟩ := F
  exact X.laload hx (by rw [eT]; exact A.1) (State.isArrayOf_alike hZ.alike A.2.1) A.2.2 (inb_of S hin) (by rw [H _ (own_at S hin), hv]) hg hs hd
theorem own_ldB (X : Stand p l e R s m args below meth c T locs cells slots) (hx : p.tables.exec = Jvm.exec) (hZ : Z.Warmed39 s.vm) (eT : T.heap = h) (F : Arf Z h a k .byte n f) {j v : Int32} (hin : ¬ j < 0 ∧ j < n) (hv : f j.toNatClampNeg = .int v) {g : JFrame} (hg : g.method = m) {rest : List Value} (hs : g.stack = .int j :: .ref a :: rest) (hd : decode c.code g.pc = .ok (.baload, 1)) :
    ∀ t, Steps p.tables e below (T.setTop { g with pc := g.pc + 1, stack := .int v :: rest }) t → Steps p.tables e below (T.setTop g) t := by
  obtain ⟨cl, A, h1, S, N, H, G⟩ := F
  exact X.baloadBytes hx (by rw [eT]; exact A.1) (State.isArrayOf_alike hZ.alike A.2.1) A.2.2 (inb_of S hin) (by rw [H _ (own_at S hin), hv]) hg hs hd
theorem own_ldR (X : Stand p l e R s m args below meth c T locs cells slots) (hx : p.tables.exec = Jvm.exec) (hZ : Z.Warmed39 s.vm) (eT : T.heap = h) {C : String} (F : Arf Z h a k (.object C) n f) {j : Int32} {v : Value} (hin : ¬ j < 0 ∧ j < n) (hv : f j.toNatClampNeg = v) {g : JFrame} (hg : g.method = m) {rest : List Value} (hs : g.stack = .int j :: .ref a :: rest) (hd : decode c.code g.pc = .ok (.aaload, 1)) :
    ∀ t, Steps p.tables e below (T.setTop { g with pc := g.pc + 1, stack := v :: rest }) t → Steps p.tables e below (T.setTop g) t := by
  obtain ⟨cl, A, h1, S, N, H, G⟩ := F
  exact X.aaload hx (by rw [eT]; exact A.1) (State.isArrayOf_alike hZ.alike A.2.1) rfl A.2.2 (inb_of S hin) (by rw [H _ (own_at S hin), hv]) hg hs hd
theorem own_stI (X : Stand p l e R s m args below meth c T locs cells slots) (hx : p.tables.exec = Jvm.exec) (hZ : Z.Warmed39 s.vm) (eT : T.heap = h) (F : Arf Z h a k .int n f) {j x : Int32} (hin : ¬ j < 0 ∧ j < n) {g : JFrame} (hg : g.method = m) {rest : List Value} (hs : g.stack = .int x :: .int j :: .ref a :: rest) (hd : decode c.code g.pc = .ok (.iastore, 1)) :
    ∃ T' h', Stand p l e R s m args below meth c T' (locs ++ [⟨a, j.toNatClampNeg⟩]) cells slots ∧ T'.heap = h' ∧ Wr h h' a j.toNatClampNeg (.int x) ∧ Arf Z h' a k .int n (own_upd f j.toNatClampNeg (.int x)) ∧ ∀ target, Steps p.tables e below (T'.setTop { g with pc := g.pc + 1, stack := rest }) target → Steps p.tables e below (T.setTop g) target := by
  obtain ⟨cl, A, h1, S, N, H, G⟩ := id F
  obtain ⟨T', h', X', e', W, st⟩ := stI X hx hZ eT A (inb_of S hin) hg hs hd
  exact ⟨T', h', X', e', W, own_set F rfl W, st⟩
theorem own_stJ (X : Stand p l e R s m args below meth c T locs cells slots) (hx : p.tables.exec = Jvm.exec) (hZ : Z.Warmed39 s.vm) (eT : T.heap = h) (F : Arf Z h a k .long n f) {j : Int32} {x : Int64} (hin : ¬ j < 0 ∧ j < n) {g : JFrame} (hg : g.method = m) {rest : List Value} (hs : g.stack = .long x :: .int j :: .ref a :: rest) (hd : decode c.code g.pc = .ok (.lastore, 1)) :
    ∃ T' h', Stand p l e R s m args below meth c T' (locs ++ [⟨a, j.toNatClampNeg⟩]) cells slots ∧ T'.heap = h' ∧ Wr h h' a j.toNatClampNeg (.long x) ∧ Arf Z h' a k .long n (own_upd f j.toNatClampNeg (.long x)) ∧ ∀ target, Steps p.tables e below (T'.setTop { g with pc := g.pc + 1, stack := rest }) target → Steps p.tables e below (T.setTop g) target := by
  obtain ⟨cl, A, h1, S, N, H, G⟩ := id F
  obtain ⟨T', h', X', e', W, st⟩ := stJ X hx hZ eT A (inb_of S hin) hg hs hd
  exact ⟨T', h', X', e', W, own_set F rfl W, st⟩
theorem own_stB (X : Stand p l e R s m args below meth c T locs cells slots) (hx : p.tables.exec = Jvm.exec) (hZ : Z.Warmed39 s.vm) (eT : T.heap = h) (F : Arf Z h a k .byte n f) {j x : Int32} (hin : ¬ j < 0 ∧ j < n) {g : JFrame} (hg : g.method = m) {rest : List Value} (hs : g.stack = .int x :: .int j :: .ref a :: rest) (hd : decode c.code g.pc = .ok (.bastore, 1)) :
    ∃ T' h', Stand p l e R s m args below meth c T' (locs ++ [⟨a, j.toNatClampNeg⟩]) cells slots ∧ T'.heap = h' ∧ Wr h h' a j.toNatClampNeg (.int (nar .byte x)) ∧ Arf Z h' a k .byte n (own_upd f j.toNatClampNeg (.int (nar .byte x))) ∧ ∀ target, Steps p.tables e below (T'.setTop { g with pc := g.pc + 1, stack := rest }) target → Steps p.tables e below (T.setTop g) target := by
  obtain ⟨cl, A, h1, S, N, H, G⟩ := id F
  obtain ⟨T', h', X', e', W, st⟩ := stB X hx hZ eT A (inb_of S hin) hg hs hd
  exact ⟨T', h', X', e', W, own_set F (fits_nar_byte _) W, st⟩
theorem own_stR (X : Stand p l e R s m args below meth c T locs cells slots) (hx : p.tables.exec = Jvm.exec) (hZ : Z.Warmed39 s.vm) (eT : T.heap = h) {C : String} (F : Arf Z h a k (.object C) n f) {j : Int32} {x : Value} (hin : ¬ j < 0 ∧ j < n) (hr : x.isRef = true) (hS : Sto Z h a x) {g : JFrame} (hg : g.method = m) {rest : List Value} (hs : g.stack = x :: .int j :: .ref a :: rest) (hd : decode c.code g.pc = .ok (.aastore, 1)) :
    ∃ T' h', Stand p l e R s m args below meth c T' (locs ++ [⟨a, j.toNatClampNeg⟩]) cells slots ∧ T'.heap = h' ∧ Wr h h' a j.toNatClampNeg x ∧ Arf Z h' a k (.object C) n (own_upd f j.toNatClampNeg x) ∧ ∀ target, Steps p.tables e below (T'.setTop { g with pc := g.pc + 1, stack := rest }) target → Steps p.tables e below (T.setTop g) target := by
  obtain ⟨cl, A, h1, S, N, H, G⟩ := id F
  obtain ⟨T', h', X', e', W, st⟩ := stR X hx hZ eT A (inb_of S hin) rfl hS hg hs hd
  exact ⟨T', h', X', e', W, own_set F (by rcases ref_cases hr with rfl | ⟨y, rfl⟩ <;> rfl) W, st⟩
theorem own_getD (f : Nat → Value) (n i : Nat) (d : Value) (h : i < n) : ((List.range n).map f).getD i d = f i := by
  simp [List.getD_eq_getElem?_getD, h]
theorem Arf.arv (F : Arf Z h a k ty n f) (d : Value) : Arv Z h a k ty n ((List.range n.toNatClampNeg).map f) d := by
  obtain ⟨c, A, h1, S, N, H, G⟩ := F
  exact ⟨c, A, h1, S, N, fun i hi => by rw [own_getD f _ i d (S ▸ hi)]; exact H i hi, fun i hi => by rw [own_getD f _ i d (S ▸ hi)]; exact G i hi⟩
theorem own_ofArv {vs : List Value} {d : Value} (F : Arv Z h a k ty n vs d) : Arf Z h a k ty n (fun i => vs.getD i d) := F
/-- System.arraycopy of a part of a primitive array into another one -/
theorem own_copy (X : Stand p l e R s m args below meth c T locs cells slots) (hx : p.tables.exec = Jvm.exec) (hZ : Z.Warmed39 s.vm) {a0 : Array Value} {own : String} {index : Nat} (hown : s.vm.findClass own = some m.cls)
    (w1 : (Jvm.Cond.methodLink own index Jvm.Stand.acN).before a0 Z = true) (w2 : (Jvm.Cond.native Jvm.Stand.acN).before a0 Z = true) (w3 : (Jvm.Cond.static Jvm.Stand.acN).before a0 Z = true) (w4 : (Jvm.Cond.initialized "java/lang/System").before a0 Z = true) (eT : T.heap = h)
    {k' : ClassId} {z' sp dp nn : Int32} (A : Arf Z h a k ty n f) (B : Arf Z h b k' ty z' f') (hty : refKind ty = false)
    (h1 : ¬ sp < 0) (h2 : ¬ dp < 0) (h3 : ¬ nn < 0) (h4 : sp.toNatClampNeg + nn.toNatClampNeg ≤ n.toNatClampNeg) (h5 : dp.toNatClampNeg + nn.toNatClampNeg ≤ z'.toNatClampNeg) {n0 : Nat} (N : Fr n0 locs) (ge : n0 ≤ b)
    {g : JFrame} (hg : g.method = m) (hsize : g.locals.size = c.maxLocals) {rest : List Value} (hs : g.stack = .int nn :: .int dp :: .ref b :: .int sp :: .ref a :: rest) (hd : decode c.code g.pc = .ok (.invokestatic index, 3))
    (hf : 1 ≤ R.frames) {W : Nat} (hW : 2 * g.monitorRoom + (rest.map fun v => v.category).sum ≤ W) (hlo : W + (nativeFrameWords "java/lang/System" "arraycopy" 5 + 11) ≤ R.locals) :
    ∃ T' h' L, Stand p l e R s m args below meth c T' L cells slots ∧ T'.heap = h' ∧ Fr n0 L ∧ Keep h h' [b] ∧ Arf Z h' b k' ty z' (fun i => if dp.toNatClampNeg ≤ i ∧ i < dp.toNatClampNeg + nn.toNatClampNeg then f (sp.toNatClampNeg + (i - dp.toNatClampNeg)) else f' i) ∧
      ∀ target, Steps p.tables e below (T'.setTop { g with pc := g.pc + 3, stack := rest }) target → Steps p.tables e below (T.setTop g) target := by
  obtain ⟨T', h', L, X', e', N', K', V', st⟩ := cpA X hx hZ hown w1 w2 w3 w4 eT (A.arv .null) (B.arv .null) (Or.inl ⟨rfl, hty⟩) h1 h2 h3 h4 h5 rfl (by simpa using h5) N ge hg hsize hs hd hf hW hlo
  refine ⟨T', h', L, X', e', N', K', (own_ofArv V').congr fun i hi => ?_, st⟩
  have hb : dp.toNatClampNeg ≤ z'.toNatClampNeg := by omega
  simp only [List.getD_eq_getElem?_getD]
  by_cases q1 : i < dp.toNatClampNeg
  · rw [if_neg (by omega), List.append_assoc, List.getElem?_append_left (by simp; omega), List.getElem?_take_of_lt q1]; simp [hi]
  · by_cases q2 : i < dp.toNatClampNeg + nn.toNatClampNeg
    · rw [if_pos ⟨by omega, q2⟩, List.append_assoc, List.getElem?_append_right (by simp; omega), List.getElem?_append_left (by simp; omega)]
      have e1 : min dp.toNatClampNeg z'.toNatClampNeg = dp.toNatClampNeg := Nat.min_eq_left hb
      simp only [List.length_take, List.length_map, List.length_range, e1]
      have e2 : i - dp.toNatClampNeg < nn.toNatClampNeg := by omega
      have e3 : sp.toNatClampNeg + (i - dp.toNatClampNeg) < n.toNatClampNeg := by omega
      simp [e2, e3]
    · rw [if_neg (by omega), List.getElem?_append_right (by simp; omega)]
      have e1 : min dp.toNatClampNeg z'.toNatClampNeg = dp.toNatClampNeg := Nat.min_eq_left hb
      simp only [List.length_append, List.length_take, List.length_map, List.length_range, e1, List.getElem?_drop]
      have e2 : dp.toNatClampNeg + nn.toNatClampNeg + (i - (dp.toNatClampNeg + nn.toNatClampNeg)) = i := by omega
      rw [e2]; simp [hi]
end OwnArr
theorem own_selfsel {Z : State} {a0 : Array Value} {y y0 : MethodName} (w0 : (Jvm.Cond.selects y.cls y0 y0).before a0 Z = true) (h0 : y0.cls = y.cls) (wi : (Jvm.Cond.instanceMethod y).before a0 Z = true) (wp : (Jvm.Cond.privateMethod y).before a0 Z = true) (hy : y.cls ≠ "java/lang/invoke/MethodHandle" ∧ y.cls ≠ "java/lang/invoke/VarHandle") : (Jvm.Cond.selects y.cls y y).before a0 Z = true := by
  obtain ⟨c, r, m, q1, q2, q3, q4, k, q5, q6⟩ := Cond.selects_spec w0
  have q7 := findClass_of_methodNamed q3
  rw [h0, q1] at q7
  cases q7
  exact selects_self_of_private q1 q5 q6 (Cond.privateMethod_at wp) wi hy
def own_sp (h : Int32) : Int32 := (h ^^^ ((h.toUInt32 >>> ((16 : Int32) &&& 31).toUInt32).toInt32))
def own_hb (b : Int32) : Int32 := (31 : Int32) + b
def own_B (b0 b1 : Int32) : Nat → Value := fun i => if i = 0 then .int b0 else .int b1
def own_ps (k s0 s1 : Int32) : Int32 := if k = 1 then s1 else if k = 2 then -1 else s0
def own_pr (k : Int32) (x1 x2 : Addr) : Value := if k = 1 then .ref x2 else if k = 2 then .null else .ref x1
def own_val (i : Int32) (x : Value) (fr fv : Nat → Value) : Value := if i = -1 then .null else if fr i.toNatClampNeg = x then fv i.toNatClampNeg else .null
def own_kp (i : Int32) (x : Value) (f : Nat → Value) : Nat → Value := if i = -1 then f else own_upd f i.toNatClampNeg x
def own_obj (Z : State) (h : Heap) (x : Value) : Prop := x = .null ∨ ∃ y, x = .ref y ∧ Ins Z h y "java/lang/Object" true
theorem own_kpN {i : Int32} (x : Value) (f : Nat → Value) (h : i = -1) : own_kp i x f = f := by unfold own_kp; rw [if_pos h]
theorem own_kpY {i : Int32} (x : Value) (f : Nat → Value) (h : ¬ i = -1) : own_kp i x f = own_upd f i.toNatClampNeg x := by unfold own_kp; rw [if_neg h]
theorem own_obj.wr {Z : State} {h h' : Heap} {a : Addr} {sl : Nat} {v x : Value} (F : own_obj Z h x) (W : Wr h h' a sl v) : own_obj Z h' x := F.imp id fun ⟨y, e, I⟩ => ⟨y, e, I.wr W⟩
theorem own_objR {Z : State} {h : Heap} {y : Addr} (I : Ins Z h y "java/lang/Object" true) : own_obj Z h (.ref y) := Or.inr ⟨y, rfl, I⟩
theorem own_objpr {Z : State} {h : Heap} {k : Int32} {x1 x2 : Addr} (I1 : Ins Z h x1 "java/lang/Object" true) (I2 : Ins Z h x2 "java/lang/Object" true) : own_obj Z h (own_pr k x1 x2) := by
  unfold own_pr; split
  · exact own_objR I2
  · split
    · exact Or.inl rfl
    · exact own_objR I1
theorem own_sto {Z : State} {h : Heap} {a : Addr} {k : ClassId} {n : Int32} {f : Nat → Value} {x : Value} (F : Arf Z h a k (.object "java/lang/Object") n f) (O : Ovr Z k "java/lang/Object") (hx : own_obj Z h x) : Sto Z h a x := by
  rcases hx with rfl | ⟨y, rfl, I⟩
  · exact Or.inl rfl
  · obtain ⟨c, A, q, -⟩ := F; exact Sto.ofV A q O I
theorem own_prR (k : Int32) (x1 x2 : Addr) : (own_pr k x1 x2).isRef = true := by unfold own_pr; (repeat' split) <;> rfl
theorem own_isref {Z : State} {h : Heap} {a : Addr} {k : ClassId} {n j : Int32} {C : String} {f : Nat → Value} (F : Arf Z h a k (.object C) n f) (hin : ¬ j < 0 ∧ j < n) : (f j.toNatClampNeg).isRef = true := by
  obtain ⟨c, A, h1, S, N, H, G⟩ := F
  have := G _ (own_at S hin)
  cases hv : f j.toNatClampNeg <;> rw [hv] at this <;> first | rfl | cases this
theorem own_valR {Z : State} {h : Heap} {a b : Addr} {k k' : ClassId} {C : String} {fr fv : Nat → Value} (i : Int32) (x : Value) (hi : i = -1 ∨ (¬ i < 0 ∧ i < 512)) (R : Arf Z h a k (.object C) 512 fr) (F : Arf Z h b k' (.object C) 512 fv) : (own_val i x fr fv).isRef = true := by
  unfold own_val
  by_cases q : i = -1
  · rw [if_pos q]; rfl
  · rw [if_neg q]; split
    · exact own_isref F (hi.resolve_left q)
    · rfl
theorem own_spin (x : Int32) : ¬ x &&& (1023 : Int32) < 0 ∧ x &&& (1023 : Int32) < 1024 := by
  have l : (x &&& (1023 : Int32)).toBitVec.toNat ≤ 1023 := by rw [Int32.toBitVec_and, BitVec.toNat_and]; exact Nat.and_le_right
  have e : (x &&& (1023 : Int32)).toInt = (x &&& (1023 : Int32)).toBitVec.toNat := by show (x &&& (1023 : Int32)).toBitVec.toInt = _; exact BitVec.toInt_eq_toNat_of_lt (by omega)
  rw [Int32.lt_iff_toInt_lt, Int32.lt_iff_toInt_lt, e]
  exact ⟨by show ¬ _ < (0 : Int); omega, by show _ < (1024 : Int); omega⟩
theorem own_spin1 (x : Int32) : ¬ (x &&& (1023 : Int32)) + (1 : Int32) &&& (1023 : Int32) < 0 ∧ (x &&& (1023 : Int32)) + (1 : Int32) &&& (1023 : Int32) < 1024 := own_spin _
theorem own_upd_hit {f : Nat → Value} {i j : Nat} {v : Value} (h : i = j) : own_upd f j v i = v := by unfold own_upd; rw [if_pos h]
theorem own_upd_miss {f : Nat → Value} {i j : Nat} {v : Value} (h : ¬ i = j) : own_upd f j v i = f i := by unfold own_upd; rw [if_neg h]
theorem own_nxt (x : Int32) : ((x &&& (1023 : Int32)) + (1 : Int32) &&& (1023 : Int32)).toNatClampNeg ≠ (x &&& (1023 : Int32)).toNatClampNeg := by
  have l : (x &&& (1023 : Int32)).toBitVec.toNat ≤ 1023 := by rw [Int32.toBitVec_and, BitVec.toNat_and]; exact Nat.and_le_right
  have cn : ∀ z : Int32, z.toBitVec.toNat < 2 ^ 31 → z.toNatClampNeg = z.toBitVec.toNat := fun z hz => by
    show z.toBitVec.toInt.toNat = _; rw [BitVec.toInt_eq_toNat_of_lt (by omega)]; rfl
  generalize hy : x &&& (1023 : Int32) = y at *
  have e : (y + 1 &&& (1023 : Int32)).toBitVec.toNat = (y.toBitVec.toNat + 1) % 1024 := by
    rw [Int32.toBitVec_and, Int32.toBitVec_add, BitVec.toNat_and, BitVec.toNat_add]
    have : (1 : Int32).toBitVec.toNat = 1 := rfl
    rw [this, Nat.mod_eq_of_lt (by omega)]; exact Nat.and_two_pow_sub_one_eq_mod _ 10
  rw [cn _ (by rw [e]; omega), cn y (by omega), e]; omega
theorem own_upd_next {x : Int32} {j : Nat} {v : Value} (h : (x &&& (1023 : Int32)).toNatClampNeg = j) : own_upd (fun _ => (.int 0 : Value)) j v ((x &&& (1023 : Int32)) + (1 : Int32) &&& (1023 : Int32)).toNatClampNeg = .int 0 := by
  rw [own_upd_miss]; rw [← h]; exact own_nxt x
theorem own_hb_inj {b0 b1 : Int32} (h : own_hb b0 = own_hb b1) : b0 = b1 := by unfold own_hb at h; exact (Int32.add_right_inj (31 : Int32)).mp h
def own_rng (z : Int32) : Prop := z = -1 ∨ z = 0 ∨ z = 1
theorem own_rg {k s1 z : Int32} (h : z = own_ps k 0 s1) (hs : s1 = 0 ∨ s1 = 1) : own_rng z := by
  unfold own_ps at h; unfold own_rng
  split at h
  · rw [h]; exact Or.inr hs
  · split at h
    · exact Or.inl h
    · exact Or.inr (Or.inl h)
theorem own_bnd {z : Int32} (h : own_rng z) : z = -1 ∨ (¬ z < 0 ∧ z < 512) := by
  rcases h with rfl | rfl | rfl
  · exact Or.inl rfl
  · exact Or.inr (by decide)
  · exact Or.inr (by decide)
theorem own_before (i : Int32) (x : Value) : own_val i x (fun _ => .null) (fun _ => .null) = .null := by unfold own_val; (repeat' split) <;> rfl
theorem own_after {ks ks2 qs : Int32} {kr kr2 qr ex : Value} {v1 v2 : Addr} (h1 : own_rng ks) (h2 : own_rng ks2) (h3 : own_rng qs)
    (he : ex = (if qs = (-1 : Int32) then .null else (if ks2 = (-1 : Int32) then (if ks = (-1 : Int32) then .null else (if qs = ks then (if qr = kr then (.ref v1) else .null) else .null)) else (if qs = ks2 then (if qr = kr2 then (.ref v2) else .null) else (if ks = (-1 : Int32) then .null else (if qs = ks then (if qr = kr then (.ref v1) else .null) else .null)))))) :
    own_val qs qr (own_kp ks2 kr2 (own_kp ks kr (fun _ => .null))) (own_kp ks2 (.ref v2) (own_kp ks (.ref v1) (fun _ => .null))) = ex := by
  rw [he]
  have c : ∀ x y : Value, (x = y) = (y = x) := fun x y => propext ⟨Eq.symm, Eq.symm⟩
  have n1 : ¬ (0 : Int32) = -1 := by decide
  have n2 : ¬ (1 : Int32) = -1 := by decide
  have n3 : ¬ (-1 : Int32) = 0 := by decide
  have n4 : ¬ (-1 : Int32) = 1 := by decide
  have n5 : ¬ (0 : Int32) = 1 := by decide
  have n6 : ¬ (1 : Int32) = 0 := by decide
  have e0 : (0 : Int32).toNatClampNeg = 0 := rfl
  have e1 : (1 : Int32).toNatClampNeg = 1 := rfl
  rcases h1 with rfl | rfl | rfl <;> rcases h2 with rfl | rfl | rfl <;> rcases h3 with rfl | rfl | rfl <;>
    simp [own_val, own_kp, own_upd, n1, n2, n3, n4, n5, n6, e0, e1, c qr]

theorem own_BB {f : Nat → Value} (v0 v1 : Int32) (i : Nat) (hi : i < (2 : Int32).toNatClampNeg) : own_upd (own_upd f (0 : Int32).toNatClampNeg (.int v0)) (1 : Int32).toNatClampNeg (.int v1) i = own_B v0 v1 i :=
  match i, hi with
  | 0, _ => rfl
  | 1, _ => rfl
  | (n_ + 2), q_ => absurd q_ (by show ¬ n_ + 2 < 2; omega)

theorem own_d_prog_9_method_1_code_0 : decode prog_9_method_1_code 0 = .ok (.aload_n 0, 1) := by decide +kernel
theorem own_d_prog_9_method_1_code_1 : decode prog_9_method_1_code 1 = .ok (.invokespecial 1, 3) := by decide +kernel
theorem own_d_prog_9_method_1_code_4 : decode prog_9_method_1_code 4 = .ok (.aload_n 0, 1) := by decide +kernel
theorem own_d_prog_9_method_1_code_5 : decode prog_9_method_1_code 5 = .ok (.sipush 1024, 3) := by decide +kernel
theorem own_d_prog_9_method_1_code_8 : decode prog_9_method_1_code 8 = .ok (.newarray .int, 2) := by decide +kernel
theorem own_d_prog_9_method_1_code_10 : decode prog_9_method_1_code 10 = .ok (.putfield 9, 3) := by decide +kernel
theorem own_d_prog_9_method_1_code_13 : decode prog_9_method_1_code 13 = .ok (.aload_n 0, 1) := by decide +kernel
theorem own_d_prog_9_method_1_code_14 : decode prog_9_method_1_code 14 = .ok (.sipush 512, 3) := by decide +kernel
theorem own_d_prog_9_method_1_code_17 : decode prog_9_method_1_code 17 = .ok (.newarray .int, 2) := by decide +kernel
theorem own_d_prog_9_method_1_code_19 : decode prog_9_method_1_code 19 = .ok (.putfield 13, 3) := by decide +kernel
theorem own_d_prog_9_method_1_code_22 : decode prog_9_method_1_code 22 = .ok (.aload_n 0, 1) := by decide +kernel
theorem own_d_prog_9_method_1_code_23 : decode prog_9_method_1_code 23 = .ok (.sipush 512, 3) := by decide +kernel
theorem own_d_prog_9_method_1_code_26 : decode prog_9_method_1_code 26 = .ok (.newarray .int, 2) := by decide +kernel
theorem own_d_prog_9_method_1_code_28 : decode prog_9_method_1_code 28 = .ok (.putfield 16, 3) := by decide +kernel
theorem own_d_prog_9_method_1_code_31 : decode prog_9_method_1_code 31 = .ok (.aload_n 0, 1) := by decide +kernel
theorem own_d_prog_9_method_1_code_32 : decode prog_9_method_1_code 32 = .ok (.sipush 512, 3) := by decide +kernel
theorem own_d_prog_9_method_1_code_35 : decode prog_9_method_1_code 35 = .ok (.newarray .int, 2) := by decide +kernel
theorem own_d_prog_9_method_1_code_37 : decode prog_9_method_1_code 37 = .ok (.putfield 19, 3) := by decide +kernel
theorem own_d_prog_9_method_1_code_40 : decode prog_9_method_1_code 40 = .ok (.aload_n 0, 1) := by decide +kernel
theorem own_d_prog_9_method_1_code_41 : decode prog_9_method_1_code 41 = .ok (.sipush 512, 3) := by decide +kernel
theorem own_d_prog_9_method_1_code_44 : decode prog_9_method_1_code 44 = .ok (.anewarray 22, 3) := by decide +kernel
theorem own_d_prog_9_method_1_code_47 : decode prog_9_method_1_code 47 = .ok (.putfield 24, 3) := by decide +kernel
theorem own_d_prog_9_method_1_code_50 : decode prog_9_method_1_code 50 = .ok (.aload_n 0, 1) := by decide +kernel
theorem own_d_prog_9_method_1_code_51 : decode prog_9_method_1_code 51 = .ok (.sipush 512, 3) := by decide +kernel
theorem own_d_prog_9_method_1_code_54 : decode prog_9_method_1_code 54 = .ok (.anewarray 2, 3) := by decide +kernel
theorem own_d_prog_9_method_1_code_57 : decode prog_9_method_1_code 57 = .ok (.putfield 28, 3) := by decide +kernel
theorem own_d_prog_9_method_1_code_60 : decode prog_9_method_1_code 60 = .ok (.aload_n 0, 1) := by decide +kernel
theorem own_d_prog_9_method_1_code_61 : decode prog_9_method_1_code 61 = .ok (.sipush 512, 3) := by decide +kernel
theorem own_d_prog_9_method_1_code_64 : decode prog_9_method_1_code 64 = .ok (.anewarray 2, 3) := by decide +kernel
theorem own_d_prog_9_method_1_code_67 : decode prog_9_method_1_code 67 = .ok (.putfield 32, 3) := by decide +kernel
theorem own_d_prog_9_method_1_code_70 : decode prog_9_method_1_code 70 = .ok (.aload_n 0, 1) := by decide +kernel
theorem own_d_prog_9_method_1_code_71 : decode prog_9_method_1_code 71 = .ok (.aload_n 1, 1) := by decide +kernel
theorem own_d_prog_9_method_1_code_72 : decode prog_9_method_1_code 72 = .ok (.putfield 35, 3) := by decide +kernel
theorem own_d_prog_9_method_1_code_75 : decode prog_9_method_1_code 75 = .ok (.return_, 1) := by decide +kernel
theorem own_pn0 : plainName "com/example/nodal_ledger/nodalledger/csv/DistinctFields" = true := by first | (simp [plainName, overriddenIn]; done) | decide +kernel
theorem own_ef_rm1 (m : MethodId) (x0 : Addr) (x1 : Addr) : entryFrame m #[(.ref x0), (.ref x1)] 2 = mkF m 0 #[.val (.ref x0), .val (.ref x1)] [] := by first | (simp [entryFrame, mkF, argsToLocals, Value.category]; done) | rfl
def own_Q_rm1 (Z : State) (a1 ab : Addr) (h0 : Heap) (n0 : Nat) (v : Option Value) (h : Heap) (L : List Loc) : Prop := v = none ∧ Fr n0 L ∧ Keep h0 h [a1] ∧ ∃ (at_ ah as_ ae av ar : Addr) (kt kh ks ke kv kr : ClassId), h0.size ≤ at_ ∧ Nat.succ at_ ≤ ah ∧ Nat.succ ah ≤ as_ ∧ Nat.succ as_ ≤ ae ∧ Nat.succ ae ≤ av ∧ Nat.succ av ≤ ar ∧ Fld Z h a1 "com/example/nodal_ledger/nodalledger/csv/DistinctFields" "table" "[I" (.ref at_) ∧ Fld Z h a1 "com/example/nodal_ledger/nodalledger/csv/DistinctFields" "hashes" "[I" (.ref ah) ∧ Fld Z h a1 "com/example/nodal_ledger/nodalledger/csv/DistinctFields" "starts" "[I" (.ref as_) ∧ Fld Z h a1 "com/example/nodal_ledger/nodalledger/csv/DistinctFields" "ends" "[I" (.ref ae) ∧ Fld Z h a1 "com/example/nodal_ledger/nodalledger/csv/DistinctFields" "values" "[Ljava/lang/Object;" (.ref av) ∧ Fld Z h a1 "com/example/nodal_ledger/nodalledger/csv/DistinctFields" "readings" "[Ljava/lang/Object;" (.ref ar) ∧ Fld Z h a1 "com/example/nodal_ledger/nodalledger/csv/DistinctFields" "bytes" "[B" (.ref ab) ∧ Fld Z h a1 "com/example/nodal_ledger/nodalledger/csv/DistinctFields" "count" "I" (.int (0 : Int32)) ∧ Arf Z h at_ kt .int 1024 (fun _ => .int 0) ∧ Arf Z h ah kh .int 512 (fun _ => .int 0) ∧ Arf Z h as_ ks .int 512 (fun _ => .int 0) ∧ Arf Z h ae ke .int 512 (fun _ => .int 0) ∧ Arf Z h av kv (.object "java/lang/Object") 512 (fun _ => .null) ∧ Arf Z h ar kr (.object "java/lang/Object") 512 (fun _ => .null) ∧ Ovr Z kv "java/lang/Object" ∧ Ovr Z kr "java/lang/Object"
set_option maxRecDepth 65536 in
set_option maxHeartbeats 40000000 in
theorem rm1 (l : Launch) (Z : State) (a0 : Array Value) (hw : ∀ d ∈ tables_1, d.before a0 Z = true) (ws : List Jvm.Cond) (a1 ab : Addr) (h0 : Heap) (n0 : Nat) (Z0 : n0 ≤ h0.size) (E_a1 : Exa Z h0 a1 "com/example/nodal_ledger/nodalledger/csv/DistinctFields") (F_table_a1 : Fld Z h0 a1 "com/example/nodal_ledger/nodalledger/csv/DistinctFields" "table" "[I" .null) (F_hashes_a1 : Fld Z h0 a1 "com/example/nodal_ledger/nodalledger/csv/DistinctFields" "hashes" "[I" .null) (F_starts_a1 : Fld Z h0 a1 "com/example/nodal_ledger/nodalledger/csv/DistinctFields" "starts" "[I" .null) (F_ends_a1 : Fld Z h0 a1 "com/example/nodal_ledger/nodalledger/csv/DistinctFields" "ends" "[I" .null) (F_texts_a1 : Fld Z h0 a1 "com/example/nodal_ledger/nodalledger/csv/DistinctFields" "texts" "[Ljava/lang/String;" .null) (F_values_a1 : Fld Z h0 a1 "com/example/nodal_ledger/nodalledger/csv/DistinctFields" "values" "[Ljava/lang/Object;" .null) (F_readings_a1 : Fld Z h0 a1 "com/example/nodal_ledger/nodalledger/csv/DistinctFields" "readings" "[Ljava/lang/Object;" .null) (F_bytes_a1 : Fld Z h0 a1 "com/example/nodal_ledger/nodalledger/csv/DistinctFields" "bytes" "[B" .null) (F_count_a1 : Fld Z h0 a1 "com/example/nodal_ledger/nodalledger/csv/DistinctFields" "count" "I" (.int (0 : Int32))) (g_a1 : n0 ≤ a1) :
    OMet l Z (⟨"com/example/nodal_ledger/nodalledger/csv/DistinctFields", "<init>", "([B)V"⟩ : MethodName) prog_9_method_1_code 2 none ws ({ frames := 1, cells := 7, slots := 4096, locals := 12 } : Room) #[(.ref a1), (.ref ab)] h0 (own_Q_rm1 Z a1 ab h0 n0) := by
  refine MetFree.of_bodySF (plainFor_of_name own_pn0) hisR ?_
  intro p e s m args below meth c s₁ Bd hml0 hP hK
  obtain ⟨rfl, hZ, hh⟩ := hP
  have hx := Bd.exec
  have hby := Bd.bytes
  have hml : c.maxLocals = 2 := hml0
  have hown : s.vm.findClass "com/example/nodal_ledger/nodalledger/csv/DistinctFields" = some m.cls := findClass_of_methodNamed Bd.named
  have hnm := (name_of_methodNamed Bd.named Bd.method).1
  have hlk : meth.locks = false := Bd.notSynchronized
  have X0 : Stand p l e ({ frames := 1, cells := 7, slots := 4096, locals := 12 } : Room) s m #[(.ref a1), (.ref ab)] below meth c s₁ [] 0 0 := Stand.of_body Bd
  have e0 : s₁.heap = h0 := by rw [← hh, Bd.state]; rfl
  have N0 := Fr.nil n0
  refine OGo.enter (P := OPost s (own_Q_rm1 Z a1 ab h0 n0) 7 4096) (own_ef_rm1 m a1 ab) ?_
  show OGo p.tables e below _ (s₁.setTop (mkF m 0 #[.val (.ref a1), .val (.ref ab)] []))
  refine OGo.st (fun _ k_ => XS.aloadN X0.here hx rfl (hb hby own_d_prog_9_method_1_code_0) rfl rfl k_) ?_
  show OGo p.tables e below _ (s₁.setTop (mkF m 1 #[.val (.ref a1), .val (.ref ab)] [(.ref a1)]))
  obtain ⟨T1, X1, ez1, st1⟩ := initO X0 hx hZ hown (hw _ (List.mem_of_getElem? (i := 7) rfl)) (hw _ (List.mem_of_getElem? (i := 8) rfl)) (hw _ (List.mem_of_getElem? (i := 9) rfl)) e0 (g := (mkF m 1 #[.val (.ref a1), .val (.ref ab)] [(.ref a1)])) rfl (by rw [hml]; rfl) rfl (hb hby own_d_prog_9_method_1_code_1) (by decide) (W := 0) (by show 2 * 0 + _ ≤ _; exact Nat.le_of_eq rfl) (by decide)
  refine OGo.st st1 ?_
  show OGo p.tables e below _ (T1.setTop (mkF m 4 #[.val (.ref a1), .val (.ref ab)] []))
  refine OGo.st (fun _ k_ => XS.aloadN X1.here hx rfl (hb hby own_d_prog_9_method_1_code_4) rfl rfl k_) ?_
  show OGo p.tables e below _ (T1.setTop (mkF m 5 #[.val (.ref a1), .val (.ref ab)] [(.ref a1)]))
  refine OGo.st (fun _ k_ => XS.sipush X1.here hx rfl (hb hby own_d_prog_9_method_1_code_5) k_) ?_
  show OGo p.tables e below _ (T1.setTop (mkF m 8 #[.val (.ref a1), .val (.ref ab)] [(.int (1024 : Int32)), (.ref a1)]))
  obtain ⟨T2, hz2, kz2, X2, ez2, Ez2, Az2, st2⟩ := newP X1 hx hZ (hw _ (List.mem_of_getElem? (i := 10) rfl)) ez1 (g := (mkF m 8 #[.val (.ref a1), .val (.ref ab)] [(.int (1024 : Int32)), (.ref a1)])) rfl (hb hby own_d_prog_9_method_1_code_8) rfl (by decide) (cap := 1024) (by decide) (by decide) (by decide) (by decide)
  obtain ⟨bz2, g2⟩ : ∃ z, z = h0.size := ⟨_, rfl⟩
  rw [← g2] at Az2 st2
  have lt_a1_bz2 : @LT.lt Nat instLTNat a1 bz2 := Nat.lt_of_lt_of_le E_a1.lt (Nat.le_of_eq g2.symm)
  have g_bz2 : n0 ≤ bz2 := Nat.le_trans (Nat.le_trans Z0 (Keep.refl h0 [a1]).1) (Nat.le_of_eq g2.symm)
  have sz_bz2 : h0.size ≤ bz2 := Nat.le_trans (Keep.refl h0 [a1]).1 (Nat.le_of_eq g2.symm)
  have Ex_3 := E_a1.ext Ez2
  have F_4 := F_table_a1.ext Ez2
  have F_5 := F_hashes_a1.ext Ez2
  have F_6 := F_starts_a1.ext Ez2
  have F_7 := F_ends_a1.ext Ez2
  have F_8 := F_texts_a1.ext Ez2
  have F_9 := F_values_a1.ext Ez2
  have F_10 := F_readings_a1.ext Ez2
  have F_11 := F_bytes_a1.ext Ez2
  have F_12 := F_count_a1.ext Ez2
  have K_13 : Keep h0 hz2 [a1] := (Keep.refl h0 [a1]).ext Ez2
  have V_bz2 : Arf Z hz2 bz2 kz2 .int (1024 : Int32) (fun _ => (.int (0 : Int32))) := own_new Az2 (by decide)
  refine OGo.st st2 ?_
  show OGo p.tables e below _ (T2.setTop (mkF m 10 #[.val (.ref a1), .val (.ref ab)] [(.ref bz2), (.ref a1)]))
  obtain ⟨T14, hz14, X14, ez14, W14, st14⟩ := putF X2 hx hZ hown (host := "") (Or.inl (hw _ (List.mem_of_getElem? (i := 11) rfl))) Via.refl ez2 F_4 Ex_3 (Or.inl (hw _ (List.mem_of_getElem? (i := 12) rfl))) (hw _ (List.mem_of_getElem? (i := 2) rfl)) (ty := (.array .int)) (by decide) rfl rfl (g := (mkF m 10 #[.val (.ref a1), .val (.ref ab)] [(.ref bz2), (.ref a1)])) rfl rfl (hb hby own_d_prog_9_method_1_code_10)
  have Fw14 : Fld Z hz14 a1 "com/example/nodal_ledger/nodalledger/csv/DistinctFields" "table" "[I" (.ref bz2) := F_4.same W14
  have Ex_15 := Ex_3.wr W14
  have F_16 := F_5.other W14 (Or.inr (slot_ne (Or.inl (hw _ (List.mem_of_getElem? (i := 14) rfl))) (Or.inl (hw _ (List.mem_of_getElem? (i := 12) rfl))) (by decide) (t := (.array .int)) (t' := (.array .int)) (by decide) (by decide)))
  have F_17 := F_6.other W14 (Or.inr (slot_ne (Or.inl (hw _ (List.mem_of_getElem? (i := 16) rfl))) (Or.inl (hw _ (List.mem_of_getElem? (i := 12) rfl))) (by decide) (t := (.array .int)) (t' := (.array .int)) (by decide) (by decide)))
  have F_18 := F_7.other W14 (Or.inr (slot_ne (Or.inl (hw _ (List.mem_of_getElem? (i := 18) rfl))) (Or.inl (hw _ (List.mem_of_getElem? (i := 12) rfl))) (by decide) (t := (.array .int)) (t' := (.array .int)) (by decide) (by decide)))
  have F_19 := F_8.other W14 (Or.inr (slot_ne (Or.inl (hw _ (List.mem_of_getElem? (i := 22) rfl))) (Or.inl (hw _ (List.mem_of_getElem? (i := 12) rfl))) (by decide) (t := (.array (.object "java/lang/String"))) (t' := (.array .int)) (by decide) (by decide)))
  have F_20 := F_9.other W14 (Or.inr (slot_ne (Or.inl (hw _ (List.mem_of_getElem? (i := 26) rfl))) (Or.inl (hw _ (List.mem_of_getElem? (i := 12) rfl))) (by decide) (t := (.array (.object "java/lang/Object"))) (t' := (.array .int)) (by decide) (by decide)))
  have F_21 := F_10.other W14 (Or.inr (slot_ne (Or.inl (hw _ (List.mem_of_getElem? (i := 28) rfl))) (Or.inl (hw _ (List.mem_of_getElem? (i := 12) rfl))) (by decide) (t := (.array (.object "java/lang/Object"))) (t' := (.array .int)) (by decide) (by decide)))
  have F_22 := F_11.other W14 (Or.inr (slot_ne (Or.inr (hw _ (List.mem_of_getElem? (i := 30) rfl))) (Or.inl (hw _ (List.mem_of_getElem? (i := 12) rfl))) (by decide) (t := (.array .byte)) (t' := (.array .int)) (by decide) (by decide)))
  have F_23 := F_12.other W14 (Or.inr (slot_ne (Or.inl (hw _ (List.mem_of_getElem? (i := 48) rfl))) (Or.inl (hw _ (List.mem_of_getElem? (i := 12) rfl))) (by decide) (t := .int) (t' := (.array .int)) (by decide) (by decide)))
  have Af_24 := V_bz2.other W14 (Ne.symm (Nat.ne_of_lt lt_a1_bz2))
  have N14 := Fr.snoc X14 N0 g_a1
  have K_25 : Keep h0 hz14 [a1] := K_13.wr W14 (Or.inl (List.mem_of_getElem? (i := 0) rfl))
  refine OGo.st st14 ?_
  show OGo p.tables e below _ (T14.setTop (mkF m 13 #[.val (.ref a1), .val (.ref ab)] []))
  refine OGo.st (fun _ k_ => XS.aloadN X14.here hx rfl (hb hby own_d_prog_9_method_1_code_13) rfl rfl k_) ?_
  show OGo p.tables e below _ (T14.setTop (mkF m 14 #[.val (.ref a1), .val (.ref ab)] [(.ref a1)]))
  refine OGo.st (fun _ k_ => XS.sipush X14.here hx rfl (hb hby own_d_prog_9_method_1_code_14) k_) ?_
  show OGo p.tables e below _ (T14.setTop (mkF m 17 #[.val (.ref a1), .val (.ref ab)] [(.int (512 : Int32)), (.ref a1)]))
  obtain ⟨T26, hz26, kz26, X26, ez26, Ez26, Az26, st26⟩ := newP X14 hx hZ (hw _ (List.mem_of_getElem? (i := 10) rfl)) ez14 (g := (mkF m 17 #[.val (.ref a1), .val (.ref ab)] [(.int (512 : Int32)), (.ref a1)])) rfl (hb hby own_d_prog_9_method_1_code_17) rfl (by decide) (cap := 512) (by decide) (by decide) (by decide) (by decide)
  obtain ⟨bz26, g26⟩ : ∃ z, z = hz14.size := ⟨_, rfl⟩
  rw [← g26] at Az26 st26
  have lt_a1_bz26 : @LT.lt Nat instLTNat a1 bz26 := Nat.lt_of_lt_of_le Ex_15.lt (Nat.le_of_eq g26.symm)
  have lt_bz2_bz26 : @LT.lt Nat instLTNat bz2 bz26 := Nat.lt_of_lt_of_le Af_24.lt (Nat.le_of_eq g26.symm)
  have g_bz26 : n0 ≤ bz26 := Nat.le_trans (Nat.le_trans Z0 K_25.1) (Nat.le_of_eq g26.symm)
  have sz_bz26 : h0.size ≤ bz26 := Nat.le_trans K_25.1 (Nat.le_of_eq g26.symm)
  have Ex_27 := Ex_15.ext Ez26
  have F_28 := F_16.ext Ez26
  have F_29 := F_17.ext Ez26
  have F_30 := F_18.ext Ez26
  have F_31 := F_19.ext Ez26
  have F_32 := F_20.ext Ez26
  have F_33 := F_21.ext Ez26
  have F_34 := F_22.ext Ez26
  have F_35 := F_23.ext Ez26
  have Af_36 := Af_24.ext Ez26
  have F_37 := Fw14.ext Ez26
  have K_38 : Keep h0 hz26 [a1] := K_25.ext Ez26
  have V_bz26 : Arf Z hz26 bz26 kz26 .int (512 : Int32) (fun _ => (.int (0 : Int32))) := own_new Az26 (by decide)
  refine OGo.st st26 ?_
  show OGo p.tables e below _ (T26.setTop (mkF m 19 #[.val (.ref a1), .val (.ref ab)] [(.ref bz26), (.ref a1)]))
  obtain ⟨T39, hz39, X39, ez39, W39, st39⟩ := putF X26 hx hZ hown (host := "") (Or.inl (hw _ (List.mem_of_getElem? (i := 13) rfl))) Via.refl ez26 F_28 Ex_27 (Or.inl (hw _ (List.mem_of_getElem? (i := 14) rfl))) (hw _ (List.mem_of_getElem? (i := 2) rfl)) (ty := (.array .int)) (by decide) rfl rfl (g := (mkF m 19 #[.val (.ref a1), .val (.ref ab)] [(.ref bz26), (.ref a1)])) rfl rfl (hb hby own_d_prog_9_method_1_code_19)
  have Fw39 : Fld Z hz39 a1 "com/example/nodal_ledger/nodalledger/csv/DistinctFields" "hashes" "[I" (.ref bz26) := F_28.same W39
  have Ex_40 := Ex_27.wr W39
  have F_41 := F_29.other W39 (Or.inr (slot_ne (Or.inl (hw _ (List.mem_of_getElem? (i := 16) rfl))) (Or.inl (hw _ (List.mem_of_getElem? (i := 14) rfl))) (by decide) (t := (.array .int)) (t' := (.array .int)) (by decide) (by decide)))
  have F_42 := F_30.other W39 (Or.inr (slot_ne (Or.inl (hw _ (List.mem_of_getElem? (i := 18) rfl))) (Or.inl (hw _ (List.mem_of_getElem? (i := 14) rfl))) (by decide) (t := (.array .int)) (t' := (.array .int)) (by decide) (by decide)))
  have F_43 := F_31.other W39 (Or.inr (slot_ne (Or.inl (hw _ (List.mem_of_getElem? (i := 22) rfl))) (Or.inl (hw _ (List.mem_of_getElem? (i := 14) rfl))) (by decide) (t := (.array (.object "java/lang/String"))) (t' := (.array .int)) (by decide) (by decide)))
  have F_44 := F_32.other W39 (Or.inr (slot_ne (Or.inl (hw _ (List.mem_of_getElem? (i := 26) rfl))) (Or.inl (hw _ (List.mem_of_getElem? (i := 14) rfl))) (by decide) (t := (.array (.object "java/lang/Object"))) (t' := (.array .int)) (by decide) (by decide)))
  have F_45 := F_33.other W39 (Or.inr (slot_ne (Or.inl (hw _ (List.mem_of_getElem? (i := 28) rfl))) (Or.inl (hw _ (List.mem_of_getElem? (i := 14) rfl))) (by decide) (t := (.array (.object "java/lang/Object"))) (t' := (.array .int)) (by decide) (by decide)))
  have F_46 := F_34.other W39 (Or.inr (slot_ne (Or.inr (hw _ (List.mem_of_getElem? (i := 30) rfl))) (Or.inl (hw _ (List.mem_of_getElem? (i := 14) rfl))) (by decide) (t := (.array .byte)) (t' := (.array .int)) (by decide) (by decide)))
  have F_47 := F_35.other W39 (Or.inr (slot_ne (Or.inl (hw _ (List.mem_of_getElem? (i := 48) rfl))) (Or.inl (hw _ (List.mem_of_getElem? (i := 14) rfl))) (by decide) (t := .int) (t' := (.array .int)) (by decide) (by decide)))
  have Af_48 := Af_36.other W39 (Ne.symm (Nat.ne_of_lt lt_a1_bz2))
  have F_49 := F_37.other W39 (Or.inr (slot_ne (Or.inl (hw _ (List.mem_of_getElem? (i := 12) rfl))) (Or.inl (hw _ (List.mem_of_getElem? (i := 14) rfl))) (by decide) (t := (.array .int)) (t' := (.array .int)) (by decide) (by decide)))
  have Af_50 := V_bz26.other W39 (Ne.symm (Nat.ne_of_lt lt_a1_bz26))
  have N39 := Fr.snoc X39 N14 g_a1
  have K_51 : Keep h0 hz39 [a1] := K_38.wr W39 (Or.inl (List.mem_of_getElem? (i := 0) rfl))
  refine OGo.st st39 ?_
  show OGo p.tables e below _ (T39.setTop (mkF m 22 #[.val (.ref a1), .val (.ref ab)] []))
  refine OGo.st (fun _ k_ => XS.aloadN X39.here hx rfl (hb hby own_d_prog_9_method_1_code_22) rfl rfl k_) ?_
  show OGo p.tables e below _ (T39.setTop (mkF m 23 #[.val (.ref a1), .val (.ref ab)] [(.ref a1)]))
  refine OGo.st (fun _ k_ => XS.sipush X39.here hx rfl (hb hby own_d_prog_9_method_1_code_23) k_) ?_
  show OGo p.tables e below _ (T39.setTop (mkF m 26 #[.val (.ref a1), .val (.ref ab)] [(.int (512 : Int32)), (.ref a1)]))
  obtain ⟨T52, hz52, kz52, X52, ez52, Ez52, Az52, st52⟩ := newP X39 hx hZ (hw _ (List.mem_of_getElem? (i := 10) rfl)) ez39 (g := (mkF m 26 #[.val (.ref a1), .val (.ref ab)] [(.int (512 : Int32)), (.ref a1)])) rfl (hb hby own_d_prog_9_method_1_code_26) rfl (by decide) (cap := 512) (by decide) (by decide) (by decide) (by decide)
  obtain ⟨bz52, g52⟩ : ∃ z, z = hz39.size := ⟨_, rfl⟩
  rw [← g52] at Az52 st52
  have lt_a1_bz52 : @LT.lt Nat instLTNat a1 bz52 := Nat.lt_of_lt_of_le Ex_40.lt (Nat.le_of_eq g52.symm)
  have lt_bz2_bz52 : @LT.lt Nat instLTNat bz2 bz52 := Nat.lt_of_lt_of_le Af_48.lt (Nat.le_of_eq g52.symm)
  have lt_bz26_bz52 : @LT.lt Nat instLTNat bz26 bz52 := Nat.lt_of_lt_of_le Af_50.lt (Nat.le_of_eq g52.symm)
  have g_bz52 : n0 ≤ bz52 := Nat.le_trans (Nat.le_trans Z0 K_51.1) (Nat.le_of_eq g52.symm)
  have sz_bz52 : h0.size ≤ bz52 := Nat.le_trans K_51.1 (Nat.le_of_eq g52.symm)
  have Ex_53 := Ex_40.ext Ez52
  have F_54 := F_41.ext Ez52
  have F_55 := F_42.ext Ez52
  have F_56 := F_43.ext Ez52
  have F_57 := F_44.ext Ez52
  have F_58 := F_45.ext Ez52
  have F_59 := F_46.ext Ez52
  have F_60 := F_47.ext Ez52
  have Af_61 := Af_48.ext Ez52
  have F_62 := F_49.ext Ez52
  have Af_63 := Af_50.ext Ez52
  have F_64 := Fw39.ext Ez52
  have K_65 : Keep h0 hz52 [a1] := K_51.ext Ez52
  have V_bz52 : Arf Z hz52 bz52 kz52 .int (512 : Int32) (fun _ => (.int (0 : Int32))) := own_new Az52 (by decide)
  refine OGo.st st52 ?_
  show OGo p.tables e below _ (T52.setTop (mkF m 28 #[.val (.ref a1), .val (.ref ab)] [(.ref bz52), (.ref a1)]))
  obtain ⟨T66, hz66, X66, ez66, W66, st66⟩ := putF X52 hx hZ hown (host := "") (Or.inl (hw _ (List.mem_of_getElem? (i := 15) rfl))) Via.refl ez52 F_54 Ex_53 (Or.inl (hw _ (List.mem_of_getElem? (i := 16) rfl))) (hw _ (List.mem_of_getElem? (i := 2) rfl)) (ty := (.array .int)) (by decide) rfl rfl (g := (mkF m 28 #[.val (.ref a1), .val (.ref ab)] [(.ref bz52), (.ref a1)])) rfl rfl (hb hby own_d_prog_9_method_1_code_28)
  have Fw66 : Fld Z hz66 a1 "com/example/nodal_ledger/nodalledger/csv/DistinctFields" "starts" "[I" (.ref bz52) := F_54.same W66
  have Ex_67 := Ex_53.wr W66
  have F_68 := F_55.other W66 (Or.inr (slot_ne (Or.inl (hw _ (List.mem_of_getElem? (i := 18) rfl))) (Or.inl (hw _ (List.mem_of_getElem? (i := 16) rfl))) (by decide) (t := (.array .int)) (t' := (.array .int)) (by decide) (by decide)))
  have F_69 := F_56.other W66 (Or.inr (slot_ne (Or.inl (hw _ (List.mem_of_getElem? (i := 22) rfl))) (Or.inl (hw _ (List.mem_of_getElem? (i := 16) rfl))) (by decide) (t := (.array (.object "java/lang/String"))) (t' := (.array .int)) (by decide) (by decide)))
  have F_70 := F_57.other W66 (Or.inr (slot_ne (Or.inl (hw _ (List.mem_of_getElem? (i := 26) rfl))) (Or.inl (hw _ (List.mem_of_getElem? (i := 16) rfl))) (by decide) (t := (.array (.object "java/lang/Object"))) (t' := (.array .int)) (by decide) (by decide)))
  have F_71 := F_58.other W66 (Or.inr (slot_ne (Or.inl (hw _ (List.mem_of_getElem? (i := 28) rfl))) (Or.inl (hw _ (List.mem_of_getElem? (i := 16) rfl))) (by decide) (t := (.array (.object "java/lang/Object"))) (t' := (.array .int)) (by decide) (by decide)))
  have F_72 := F_59.other W66 (Or.inr (slot_ne (Or.inr (hw _ (List.mem_of_getElem? (i := 30) rfl))) (Or.inl (hw _ (List.mem_of_getElem? (i := 16) rfl))) (by decide) (t := (.array .byte)) (t' := (.array .int)) (by decide) (by decide)))
  have F_73 := F_60.other W66 (Or.inr (slot_ne (Or.inl (hw _ (List.mem_of_getElem? (i := 48) rfl))) (Or.inl (hw _ (List.mem_of_getElem? (i := 16) rfl))) (by decide) (t := .int) (t' := (.array .int)) (by decide) (by decide)))
  have Af_74 := Af_61.other W66 (Ne.symm (Nat.ne_of_lt lt_a1_bz2))
  have F_75 := F_62.other W66 (Or.inr (slot_ne (Or.inl (hw _ (List.mem_of_getElem? (i := 12) rfl))) (Or.inl (hw _ (List.mem_of_getElem? (i := 16) rfl))) (by decide) (t := (.array .int)) (t' := (.array .int)) (by decide) (by decide)))
  have Af_76 := Af_63.other W66 (Ne.symm (Nat.ne_of_lt lt_a1_bz26))
  have F_77 := F_64.other W66 (Or.inr (slot_ne (Or.inl (hw _ (List.mem_of_getElem? (i := 14) rfl))) (Or.inl (hw _ (List.mem_of_getElem? (i := 16) rfl))) (by decide) (t := (.array .int)) (t' := (.array .int)) (by decide) (by decide)))
  have Af_78 := V_bz52.other W66 (Ne.symm (Nat.ne_of_lt lt_a1_bz52))
  have N66 := Fr.snoc X66 N39 g_a1
  have K_79 : Keep h0 hz66 [a1] := K_65.wr W66 (Or.inl (List.mem_of_getElem? (i := 0) rfl))
  refine OGo.st st66 ?_
  show OGo p.tables e below _ (T66.setTop (mkF m 31 #[.val (.ref a1), .val (.ref ab)] []))
  refine OGo.st (fun _ k_ => XS.aloadN X66.here hx rfl (hb hby own_d_prog_9_method_1_code_31) rfl rfl k_) ?_
  show OGo p.tables e below _ (T66.setTop (mkF m 32 #[.val (.ref a1), .val (.ref ab)] [(.ref a1)]))
  refine OGo.st (fun _ k_ => XS.sipush X66.here hx rfl (hb hby own_d_prog_9_method_1_code_32) k_) ?_
  show OGo p.tables e below _ (T66.setTop (mkF m 35 #[.val (.ref a1), .val (.ref ab)] [(.int (512 : Int32)), (.ref a1)]))
  obtain ⟨T80, hz80, kz80, X80, ez80, Ez80, Az80, st80⟩ := newP X66 hx hZ (hw _ (List.mem_of_getElem? (i := 10) rfl)) ez66 (g := (mkF m 35 #[.val (.ref a1), .val (.ref ab)] [(.int (512 : Int32)), (.ref a1)])) rfl (hb hby own_d_prog_9_method_1_code_35) rfl (by decide) (cap := 512) (by decide) (by decide) (by decide) (by decide)
  obtain ⟨bz80, g80⟩ : ∃ z, z = hz66.size := ⟨_, rfl⟩
  rw [← g80] at Az80 st80
  have lt_a1_bz80 : @LT.lt Nat instLTNat a1 bz80 := Nat.lt_of_lt_of_le Ex_67.lt (Nat.le_of_eq g80.symm)
  have lt_bz2_bz80 : @LT.lt Nat instLTNat bz2 bz80 := Nat.lt_of_lt_of_le Af_74.lt (Nat.le_of_eq g80.symm)
  have lt_bz26_bz80 : @LT.lt Nat instLTNat bz26 bz80 := Nat.lt_of_lt_of_le Af_76.lt (Nat.le_of_eq g80.symm)
  have lt_bz52_bz80 : @LT.lt Nat instLTNat bz52 bz80 := Nat.lt_of_lt_of_le Af_78.lt (Nat.le_of_eq g80.symm)
  have g_bz80 : n0 ≤ bz80 := Nat.le_trans (Nat.le_trans Z0 K_79.1) (Nat.le_of_eq g80.symm)
  have sz_bz80 : h0.size ≤ bz80 := Nat.le_trans K_79.1 (Nat.le_of_eq g80.symm)
  have Ex_81 := Ex_67.ext Ez80
  have F_82 := F_68.ext Ez80
  have F_83 := F_69.ext Ez80
  have F_84 := F_70.ext Ez80
  have F_85 := F_71.ext Ez80
  have F_86 := F_72.ext Ez80
  have F_87 := F_73.ext Ez80
  have Af_88 := Af_74.ext Ez80
  have F_89 := F_75.ext Ez80
  have Af_90 := Af_76.ext Ez80
  have F_91 := F_77.ext Ez80
  have Af_92 := Af_78.ext Ez80
  have F_93 := Fw66.ext Ez80
  have K_94 : Keep h0 hz80 [a1] := K_79.ext Ez80
  have V_bz80 : Arf Z hz80 bz80 kz80 .int (512 : Int32) (fun _ => (.int (0 : Int32))) := own_new Az80 (by decide)
  refine OGo.st st80 ?_
  show OGo p.tables e below _ (T80.setTop (mkF m 37 #[.val (.ref a1), .val (.ref ab)] [(.ref bz80), (.ref a1)]))
  obtain ⟨T95, hz95, X95, ez95, W95, st95⟩ := putF X80 hx hZ hown (host := "") (Or.inl (hw _ (List.mem_of_getElem? (i := 17) rfl))) Via.refl ez80 F_82 Ex_81 (Or.inl (hw _ (List.mem_of_getElem? (i := 18) rfl))) (hw _ (List.mem_of_getElem? (i := 2) rfl)) (ty := (.array .int)) (by decide) rfl rfl (g := (mkF m 37 #[.val (.ref a1), .val (.ref ab)] [(.ref bz80), (.ref a1)])) rfl rfl (hb hby own_d_prog_9_method_1_code_37)
  have Fw95 : Fld Z hz95 a1 "com/example/nodal_ledger/nodalledger/csv/DistinctFields" "ends" "[I" (.ref bz80) := F_82.same W95
  have Ex_96 := Ex_81.wr W95
  have F_97 := F_83.other W95 (Or.inr (slot_ne (Or.inl (hw _ (List.mem_of_getElem? (i := 22) rfl))) (Or.inl (hw _ (List.mem_of_getElem? (i := 18) rfl))) (by decide) (t := (.array (.object "java/lang/String"))) (t' := (.array .int)) (by decide) (by decide)))
  have F_98 := F_84.other W95 (Or.inr (slot_ne (Or.inl (hw _ (List.mem_of_getElem? (i := 26) rfl))) (Or.inl (hw _ (List.mem_of_getElem? (i := 18) rfl))) (by decide) (t := (.array (.object "java/lang/Object"))) (t' := (.array .int)) (by decide) (by decide)))
  have F_99 := F_85.other W95 (Or.inr (slot_ne (Or.inl (hw _ (List.mem_of_getElem? (i := 28) rfl))) (Or.inl (hw _ (List.mem_of_getElem? (i := 18) rfl))) (by decide) (t := (.array (.object "java/lang/Object"))) (t' := (.array .int)) (by decide) (by decide)))
  have F_100 := F_86.other W95 (Or.inr (slot_ne (Or.inr (hw _ (List.mem_of_getElem? (i := 30) rfl))) (Or.inl (hw _ (List.mem_of_getElem? (i := 18) rfl))) (by decide) (t := (.array .byte)) (t' := (.array .int)) (by decide) (by decide)))
  have F_101 := F_87.other W95 (Or.inr (slot_ne (Or.inl (hw _ (List.mem_of_getElem? (i := 48) rfl))) (Or.inl (hw _ (List.mem_of_getElem? (i := 18) rfl))) (by decide) (t := .int) (t' := (.array .int)) (by decide) (by decide)))
  have Af_102 := Af_88.other W95 (Ne.symm (Nat.ne_of_lt lt_a1_bz2))
  have F_103 := F_89.other W95 (Or.inr (slot_ne (Or.inl (hw _ (List.mem_of_getElem? (i := 12) rfl))) (Or.inl (hw _ (List.mem_of_getElem? (i := 18) rfl))) (by decide) (t := (.array .int)) (t' := (.array .int)) (by decide) (by decide)))
  have Af_104 := Af_90.other W95 (Ne.symm (Nat.ne_of_lt lt_a1_bz26))
  have F_105 := F_91.other W95 (Or.inr (slot_ne (Or.inl (hw _ (List.mem_of_getElem? (i := 14) rfl))) (Or.inl (hw _ (List.mem_of_getElem? (i := 18) rfl))) (by decide) (t := (.array .int)) (t' := (.array .int)) (by decide) (by decide)))
  have Af_106 := Af_92.other W95 (Ne.symm (Nat.ne_of_lt lt_a1_bz52))
  have F_107 := F_93.other W95 (Or.inr (slot_ne (Or.inl (hw _ (List.mem_of_getElem? (i := 16) rfl))) (Or.inl (hw _ (List.mem_of_getElem? (i := 18) rfl))) (by decide) (t := (.array .int)) (t' := (.array .int)) (by decide) (by decide)))
  have Af_108 := V_bz80.other W95 (Ne.symm (Nat.ne_of_lt lt_a1_bz80))
  have N95 := Fr.snoc X95 N66 g_a1
  have K_109 : Keep h0 hz95 [a1] := K_94.wr W95 (Or.inl (List.mem_of_getElem? (i := 0) rfl))
  refine OGo.st st95 ?_
  show OGo p.tables e below _ (T95.setTop (mkF m 40 #[.val (.ref a1), .val (.ref ab)] []))
  refine OGo.st (fun _ k_ => XS.aloadN X95.here hx rfl (hb hby own_d_prog_9_method_1_code_40) rfl rfl k_) ?_
  show OGo p.tables e below _ (T95.setTop (mkF m 41 #[.val (.ref a1), .val (.ref ab)] [(.ref a1)]))
  refine OGo.st (fun _ k_ => XS.sipush X95.here hx rfl (hb hby own_d_prog_9_method_1_code_41) k_) ?_
  show OGo p.tables e below _ (T95.setTop (mkF m 44 #[.val (.ref a1), .val (.ref ab)] [(.int (512 : Int32)), (.ref a1)]))
  obtain ⟨T110, hz110, kz110, X110, ez110, Ez110, Az110, O110, st110⟩ := newR X95 hx hZ hown (hw _ (List.mem_of_getElem? (i := 19) rfl)) (hw _ (List.mem_of_getElem? (i := 20) rfl)) ez95 (g := (mkF m 44 #[.val (.ref a1), .val (.ref ab)] [(.int (512 : Int32)), (.ref a1)])) rfl (hb hby own_d_prog_9_method_1_code_44) rfl (by decide) (cap := 512) (by decide) (by decide) (by decide) (by decide)
  obtain ⟨bz110, g110⟩ : ∃ z, z = hz95.size := ⟨_, rfl⟩
  rw [← g110] at Az110 st110
  have lt_a1_bz110 : @LT.lt Nat instLTNat a1 bz110 := Nat.lt_of_lt_of_le Ex_96.lt (Nat.le_of_eq g110.symm)
  have lt_bz2_bz110 : @LT.lt Nat instLTNat bz2 bz110 := Nat.lt_of_lt_of_le Af_102.lt (Nat.le_of_eq g110.symm)
  have lt_bz26_bz110 : @LT.lt Nat instLTNat bz26 bz110 := Nat.lt_of_lt_of_le Af_104.lt (Nat.le_of_eq g110.symm)
  have lt_bz52_bz110 : @LT.lt Nat instLTNat bz52 bz110 := Nat.lt_of_lt_of_le Af_106.lt (Nat.le_of_eq g110.symm)
  have lt_bz80_bz110 : @LT.lt Nat instLTNat bz80 bz110 := Nat.lt_of_lt_of_le Af_108.lt (Nat.le_of_eq g110.symm)
  have g_bz110 : n0 ≤ bz110 := Nat.le_trans (Nat.le_trans Z0 K_109.1) (Nat.le_of_eq g110.symm)
  have sz_bz110 : h0.size ≤ bz110 := Nat.le_trans K_109.1 (Nat.le_of_eq g110.symm)
  have Ex_111 := Ex_96.ext Ez110
  have F_112 := F_97.ext Ez110
  have F_113 := F_98.ext Ez110
  have F_114 := F_99.ext Ez110
  have F_115 := F_100.ext Ez110
  have F_116 := F_101.ext Ez110
  have Af_117 := Af_102.ext Ez110
  have F_118 := F_103.ext Ez110
  have Af_119 := Af_104.ext Ez110
  have F_120 := F_105.ext Ez110
  have Af_121 := Af_106.ext Ez110
  have F_122 := F_107.ext Ez110
  have Af_123 := Af_108.ext Ez110
  have F_124 := Fw95.ext Ez110
  have K_125 : Keep h0 hz110 [a1] := K_109.ext Ez110
  have V_bz110 : Arf Z hz110 bz110 kz110 (.object "java/lang/String") (512 : Int32) (fun _ => .null) := own_new Az110 (by decide)
  refine OGo.st st110 ?_
  show OGo p.tables e below _ (T110.setTop (mkF m 47 #[.val (.ref a1), .val (.ref ab)] [(.ref bz110), (.ref a1)]))
  obtain ⟨T126, hz126, X126, ez126, W126, st126⟩ := putF X110 hx hZ hown (host := "") (Or.inl (hw _ (List.mem_of_getElem? (i := 21) rfl))) Via.refl ez110 F_112 Ex_111 (Or.inl (hw _ (List.mem_of_getElem? (i := 22) rfl))) (hw _ (List.mem_of_getElem? (i := 2) rfl)) (ty := (.array (.object "java/lang/String"))) (by decide) rfl rfl (g := (mkF m 47 #[.val (.ref a1), .val (.ref ab)] [(.ref bz110), (.ref a1)])) rfl rfl (hb hby own_d_prog_9_method_1_code_47)
  have Fw126 : Fld Z hz126 a1 "com/example/nodal_ledger/nodalledger/csv/DistinctFields" "texts" "[Ljava/lang/String;" (.ref bz110) := F_112.same W126
  have Ex_127 := Ex_111.wr W126
  have F_128 := F_113.other W126 (Or.inr (slot_ne (Or.inl (hw _ (List.mem_of_getElem? (i := 26) rfl))) (Or.inl (hw _ (List.mem_of_getElem? (i := 22) rfl))) (by decide) (t := (.array (.object "java/lang/Object"))) (t' := (.array (.object "java/lang/String"))) (by decide) (by decide)))
  have F_129 := F_114.other W126 (Or.inr (slot_ne (Or.inl (hw _ (List.mem_of_getElem? (i := 28) rfl))) (Or.inl (hw _ (List.mem_of_getElem? (i := 22) rfl))) (by decide) (t := (.array (.object "java/lang/Object"))) (t' := (.array (.object "java/lang/String"))) (by decide) (by decide)))
  have F_130 := F_115.other W126 (Or.inr (slot_ne (Or.inr (hw _ (List.mem_of_getElem? (i := 30) rfl))) (Or.inl (hw _ (List.mem_of_getElem? (i := 22) rfl))) (by decide) (t := (.array .byte)) (t' := (.array (.object "java/lang/String"))) (by decide) (by decide)))
  have F_131 := F_116.other W126 (Or.inr (slot_ne (Or.inl (hw _ (List.mem_of_getElem? (i := 48) rfl))) (Or.inl (hw _ (List.mem_of_getElem? (i := 22) rfl))) (by decide) (t := .int) (t' := (.array (.object "java/lang/String"))) (by decide) (by decide)))
  have Af_132 := Af_117.other W126 (Ne.symm (Nat.ne_of_lt lt_a1_bz2))
  have F_133 := F_118.other W126 (Or.inr (slot_ne (Or.inl (hw _ (List.mem_of_getElem? (i := 12) rfl))) (Or.inl (hw _ (List.mem_of_getElem? (i := 22) rfl))) (by decide) (t := (.array .int)) (t' := (.array (.object "java/lang/String"))) (by decide) (by decide)))
  have Af_134 := Af_119.other W126 (Ne.symm (Nat.ne_of_lt lt_a1_bz26))
  have F_135 := F_120.other W126 (Or.inr (slot_ne (Or.inl (hw _ (List.mem_of_getElem? (i := 14) rfl))) (Or.inl (hw _ (List.mem_of_getElem? (i := 22) rfl))) (by decide) (t := (.array .int)) (t' := (.array (.object "java/lang/String"))) (by decide) (by decide)))
  have Af_136 := Af_121.other W126 (Ne.symm (Nat.ne_of_lt lt_a1_bz52))
  have F_137 := F_122.other W126 (Or.inr (slot_ne (Or.inl (hw _ (List.mem_of_getElem? (i := 16) rfl))) (Or.inl (hw _ (List.mem_of_getElem? (i := 22) rfl))) (by decide) (t := (.array .int)) (t' := (.array (.object "java/lang/String"))) (by decide) (by decide)))
  have Af_138 := Af_123.other W126 (Ne.symm (Nat.ne_of_lt lt_a1_bz80))
  have F_139 := F_124.other W126 (Or.inr (slot_ne (Or.inl (hw _ (List.mem_of_getElem? (i := 18) rfl))) (Or.inl (hw _ (List.mem_of_getElem? (i := 22) rfl))) (by decide) (t := (.array .int)) (t' := (.array (.object "java/lang/String"))) (by decide) (by decide)))
  have Af_140 := V_bz110.other W126 (Ne.symm (Nat.ne_of_lt lt_a1_bz110))
  have N126 := Fr.snoc X126 N95 g_a1
  have K_141 : Keep h0 hz126 [a1] := K_125.wr W126 (Or.inl (List.mem_of_getElem? (i := 0) rfl))
  refine OGo.st st126 ?_
  show OGo p.tables e below _ (T126.setTop (mkF m 50 #[.val (.ref a1), .val (.ref ab)] []))
  refine OGo.st (fun _ k_ => XS.aloadN X126.here hx rfl (hb hby own_d_prog_9_method_1_code_50) rfl rfl k_) ?_
  show OGo p.tables e below _ (T126.setTop (mkF m 51 #[.val (.ref a1), .val (.ref ab)] [(.ref a1)]))
  refine OGo.st (fun _ k_ => XS.sipush X126.here hx rfl (hb hby own_d_prog_9_method_1_code_51) k_) ?_
  show OGo p.tables e below _ (T126.setTop (mkF m 54 #[.val (.ref a1), .val (.ref ab)] [(.int (512 : Int32)), (.ref a1)]))
  obtain ⟨T142, hz142, kz142, X142, ez142, Ez142, Az142, O142, st142⟩ := newR X126 hx hZ hown (hw _ (List.mem_of_getElem? (i := 23) rfl)) (hw _ (List.mem_of_getElem? (i := 24) rfl)) ez126 (g := (mkF m 54 #[.val (.ref a1), .val (.ref ab)] [(.int (512 : Int32)), (.ref a1)])) rfl (hb hby own_d_prog_9_method_1_code_54) rfl (by decide) (cap := 512) (by decide) (by decide) (by decide) (by decide)
  obtain ⟨bz142, g142⟩ : ∃ z, z = hz126.size := ⟨_, rfl⟩
  rw [← g142] at Az142 st142
  have lt_a1_bz142 : @LT.lt Nat instLTNat a1 bz142 := Nat.lt_of_lt_of_le Ex_127.lt (Nat.le_of_eq g142.symm)
  have lt_bz2_bz142 : @LT.lt Nat instLTNat bz2 bz142 := Nat.lt_of_lt_of_le Af_132.lt (Nat.le_of_eq g142.symm)
  have lt_bz26_bz142 : @LT.lt Nat instLTNat bz26 bz142 := Nat.lt_of_lt_of_le Af_134.lt (Nat.le_of_eq g142.symm)
  have lt_bz52_bz142 : @LT.lt Nat instLTNat bz52 bz142 := Nat.lt_of_lt_of_le Af_136.lt (Nat.le_of_eq g142.symm)
  have lt_bz80_bz142 : @LT.lt Nat instLTNat bz80 bz142 := Nat.lt_of_lt_of_le Af_138.lt (Nat.le_of_eq g142.symm)
  have lt_bz110_bz142 : @LT.lt Nat instLTNat bz110 bz142 := Nat.lt_of_lt_of_le Af_140.lt (Nat.le_of_eq g142.symm)
  have g_bz142 : n0 ≤ bz142 := Nat.le_trans (Nat.le_trans Z0 K_141.1) (Nat.le_of_eq g142.symm)
  have sz_bz142 : h0.size ≤ bz142 := Nat.le_trans K_141.1 (Nat.le_of_eq g142.symm)
  have Ex_143 := Ex_127.ext Ez142
  have F_144 := F_128.ext Ez142
  have F_145 := F_129.ext Ez142
  have F_146 := F_130.ext Ez142
  have F_147 := F_131.ext Ez142
  have Af_148 := Af_132.ext Ez142
  have F_149 := F_133.ext Ez142
  have Af_150 := Af_134.ext Ez142
  have F_151 := F_135.ext Ez142
  have Af_152 := Af_136.ext Ez142
  have F_153 := F_137.ext Ez142
  have Af_154 := Af_138.ext Ez142
  have F_155 := F_139.ext Ez142
  have Af_156 := Af_140.ext Ez142
  have F_157 := Fw126.ext Ez142
  have K_158 : Keep h0 hz142 [a1] := K_141.ext Ez142
  have V_bz142 : Arf Z hz142 bz142 kz142 (.object "java/lang/Object") (512 : Int32) (fun _ => .null) := own_new Az142 (by decide)
  refine OGo.st st142 ?_
  show OGo p.tables e below _ (T142.setTop (mkF m 57 #[.val (.ref a1), .val (.ref ab)] [(.ref bz142), (.ref a1)]))
  obtain ⟨T159, hz159, X159, ez159, W159, st159⟩ := putF X142 hx hZ hown (host := "") (Or.inl (hw _ (List.mem_of_getElem? (i := 25) rfl))) Via.refl ez142 F_144 Ex_143 (Or.inl (hw _ (List.mem_of_getElem? (i := 26) rfl))) (hw _ (List.mem_of_getElem? (i := 2) rfl)) (ty := (.array (.object "java/lang/Object"))) (by decide) rfl rfl (g := (mkF m 57 #[.val (.ref a1), .val (.ref ab)] [(.ref bz142), (.ref a1)])) rfl rfl (hb hby own_d_prog_9_method_1_code_57)
  have Fw159 : Fld Z hz159 a1 "com/example/nodal_ledger/nodalledger/csv/DistinctFields" "values" "[Ljava/lang/Object;" (.ref bz142) := F_144.same W159
  have Ex_160 := Ex_143.wr W159
  have F_161 := F_145.other W159 (Or.inr (slot_ne (Or.inl (hw _ (List.mem_of_getElem? (i := 28) rfl))) (Or.inl (hw _ (List.mem_of_getElem? (i := 26) rfl))) (by decide) (t := (.array (.object "java/lang/Object"))) (t' := (.array (.object "java/lang/Object"))) (by decide) (by decide)))
  have F_162 := F_146.other W159 (Or.inr (slot_ne (Or.inr (hw _ (List.mem_of_getElem? (i := 30) rfl))) (Or.inl (hw _ (List.mem_of_getElem? (i := 26) rfl))) (by decide) (t := (.array .byte)) (t' := (.array (.object "java/lang/Object"))) (by decide) (by decide)))
  have F_163 := F_147.other W159 (Or.inr (slot_ne (Or.inl (hw _ (List.mem_of_getElem? (i := 48) rfl))) (Or.inl (hw _ (List.mem_of_getElem? (i := 26) rfl))) (by decide) (t := .int) (t' := (.array (.object "java/lang/Object"))) (by decide) (by decide)))
  have Af_164 := Af_148.other W159 (Ne.symm (Nat.ne_of_lt lt_a1_bz2))
  have F_165 := F_149.other W159 (Or.inr (slot_ne (Or.inl (hw _ (List.mem_of_getElem? (i := 12) rfl))) (Or.inl (hw _ (List.mem_of_getElem? (i := 26) rfl))) (by decide) (t := (.array .int)) (t' := (.array (.object "java/lang/Object"))) (by decide) (by decide)))
  have Af_166 := Af_150.other W159 (Ne.symm (Nat.ne_of_lt lt_a1_bz26))
  have F_167 := F_151.other W159 (Or.inr (slot_ne (Or.inl (hw _ (List.mem_of_getElem? (i := 14) rfl))) (Or.inl (hw _ (List.mem_of_getElem? (i := 26) rfl))) (by decide) (t := (.array .int)) (t' := (.array (.object "java/lang/Object"))) (by decide) (by decide)))
  have Af_168 := Af_152.other W159 (Ne.symm (Nat.ne_of_lt lt_a1_bz52))
  have F_169 := F_153.other W159 (Or.inr (slot_ne (Or.inl (hw _ (List.mem_of_getElem? (i := 16) rfl))) (Or.inl (hw _ (List.mem_of_getElem? (i := 26) rfl))) (by decide) (t := (.array .int)) (t' := (.array (.object "java/lang/Object"))) (by decide) (by decide)))
  have Af_170 := Af_154.other W159 (Ne.symm (Nat.ne_of_lt lt_a1_bz80))
  have F_171 := F_155.other W159 (Or.inr (slot_ne (Or.inl (hw _ (List.mem_of_getElem? (i := 18) rfl))) (Or.inl (hw _ (List.mem_of_getElem? (i := 26) rfl))) (by decide) (t := (.array .int)) (t' := (.array (.object "java/lang/Object"))) (by decide) (by decide)))
  have Af_172 := Af_156.other W159 (Ne.symm (Nat.ne_of_lt lt_a1_bz110))
  have F_173 := F_157.other W159 (Or.inr (slot_ne (Or.inl (hw _ (List.mem_of_getElem? (i := 22) rfl))) (Or.inl (hw _ (List.mem_of_getElem? (i := 26) rfl))) (by decide) (t := (.array (.object "java/lang/String"))) (t' := (.array (.object "java/lang/Object"))) (by decide) (by decide)))
  have Af_174 := V_bz142.other W159 (Ne.symm (Nat.ne_of_lt lt_a1_bz142))
  have N159 := Fr.snoc X159 N126 g_a1
  have K_175 : Keep h0 hz159 [a1] := K_158.wr W159 (Or.inl (List.mem_of_getElem? (i := 0) rfl))
  refine OGo.st st159 ?_
  show OGo p.tables e below _ (T159.setTop (mkF m 60 #[.val (.ref a1), .val (.ref ab)] []))
  refine OGo.st (fun _ k_ => XS.aloadN X159.here hx rfl (hb hby own_d_prog_9_method_1_code_60) rfl rfl k_) ?_
  show OGo p.tables e below _ (T159.setTop (mkF m 61 #[.val (.ref a1), .val (.ref ab)] [(.ref a1)]))
  refine OGo.st (fun _ k_ => XS.sipush X159.here hx rfl (hb hby own_d_prog_9_method_1_code_61) k_) ?_
  show OGo p.tables e below _ (T159.setTop (mkF m 64 #[.val (.ref a1), .val (.ref ab)] [(.int (512 : Int32)), (.ref a1)]))
  obtain ⟨T176, hz176, kz176, X176, ez176, Ez176, Az176, O176, st176⟩ := newR X159 hx hZ hown (hw _ (List.mem_of_getElem? (i := 23) rfl)) (hw _ (List.mem_of_getElem? (i := 24) rfl)) ez159 (g := (mkF m 64 #[.val (.ref a1), .val (.ref ab)] [(.int (512 : Int32)), (.ref a1)])) rfl (hb hby own_d_prog_9_method_1_code_64) rfl (by decide) (cap := 512) (by decide) (by decide) (by decide) (by decide)
  obtain ⟨bz176, g176⟩ : ∃ z, z = hz159.size := ⟨_, rfl⟩
  rw [← g176] at Az176 st176
  have lt_a1_bz176 : @LT.lt Nat instLTNat a1 bz176 := Nat.lt_of_lt_of_le Ex_160.lt (Nat.le_of_eq g176.symm)
  have lt_bz2_bz176 : @LT.lt Nat instLTNat bz2 bz176 := Nat.lt_of_lt_of_le Af_164.lt (Nat.le_of_eq g176.symm)
  have lt_bz26_bz176 : @LT.lt Nat instLTNat bz26 bz176 := Nat.lt_of_lt_of_le Af_166.lt (Nat.le_of_eq g176.symm)
  have lt_bz52_bz176 : @LT.lt Nat instLTNat bz52 bz176 := Nat.lt_of_lt_of_le Af_168.lt (Nat.le_of_eq g176.symm)
  have lt_bz80_bz176 : @LT.lt Nat instLTNat bz80 bz176 := Nat.lt_of_lt_of_le Af_170.lt (Nat.le_of_eq g176.symm)
  have lt_bz110_bz176 : @LT.lt Nat instLTNat bz110 bz176 := Nat.lt_of_lt_of_le Af_172.lt (Nat.le_of_eq g176.symm)
  have lt_bz142_bz176 : @LT.lt Nat instLTNat bz142 bz176 := Nat.lt_of_lt_of_le Af_174.lt (Nat.le_of_eq g176.symm)
  have g_bz176 : n0 ≤ bz176 := Nat.le_trans (Nat.le_trans Z0 K_175.1) (Nat.le_of_eq g176.symm)
  have sz_bz176 : h0.size ≤ bz176 := Nat.le_trans K_175.1 (Nat.le_of_eq g176.symm)
  have Ex_177 := Ex_160.ext Ez176
  have F_178 := F_161.ext Ez176
  have F_179 := F_162.ext Ez176
  have F_180 := F_163.ext Ez176
  have Af_181 := Af_164.ext Ez176
  have F_182 := F_165.ext Ez176
  have Af_183 := Af_166.ext Ez176
  have F_184 := F_167.ext Ez176
  have Af_185 := Af_168.ext Ez176
  have F_186 := F_169.ext Ez176
  have Af_187 := Af_170.ext Ez176
  have F_188 := F_171.ext Ez176
  have Af_189 := Af_172.ext Ez176
  have F_190 := F_173.ext Ez176
  have Af_191 := Af_174.ext Ez176
  have F_192 := Fw159.ext Ez176
  have K_193 : Keep h0 hz176 [a1] := K_175.ext Ez176
  have V_bz176 : Arf Z hz176 bz176 kz176 (.object "java/lang/Object") (512 : Int32) (fun _ => .null) := own_new Az176 (by decide)
  refine OGo.st st176 ?_
  show OGo p.tables e below _ (T176.setTop (mkF m 67 #[.val (.ref a1), .val (.ref ab)] [(.ref bz176), (.ref a1)]))
  obtain ⟨T194, hz194, X194, ez194, W194, st194⟩ := putF X176 hx hZ hown (host := "") (Or.inl (hw _ (List.mem_of_getElem? (i := 27) rfl))) Via.refl ez176 F_178 Ex_177 (Or.inl (hw _ (List.mem_of_getElem? (i := 28) rfl))) (hw _ (List.mem_of_getElem? (i := 2) rfl)) (ty := (.array (.object "java/lang/Object"))) (by decide) rfl rfl (g := (mkF m 67 #[.val (.ref a1), .val (.ref ab)] [(.ref bz176), (.ref a1)])) rfl rfl (hb hby own_d_prog_9_method_1_code_67)
  have Fw194 : Fld Z hz194 a1 "com/example/nodal_ledger/nodalledger/csv/DistinctFields" "readings" "[Ljava/lang/Object;" (.ref bz176) := F_178.same W194
  have Ex_195 := Ex_177.wr W194
  have F_196 := F_179.other W194 (Or.inr (slot_ne (Or.inr (hw _ (List.mem_of_getElem? (i := 30) rfl))) (Or.inl (hw _ (List.mem_of_getElem? (i := 28) rfl))) (by decide) (t := (.array .byte)) (t' := (.array (.object "java/lang/Object"))) (by decide) (by decide)))
  have F_197 := F_180.other W194 (Or.inr (slot_ne (Or.inl (hw _ (List.mem_of_getElem? (i := 48) rfl))) (Or.inl (hw _ (List.mem_of_getElem? (i := 28) rfl))) (by decide) (t := .int) (t' := (.array (.object "java/lang/Object"))) (by decide) (by decide)))
  have Af_198 := Af_181.other W194 (Ne.symm (Nat.ne_of_lt lt_a1_bz2))
  have F_199 := F_182.other W194 (Or.inr (slot_ne (Or.inl (hw _ (List.mem_of_getElem? (i := 12) rfl))) (Or.inl (hw _ (List.mem_of_getElem? (i := 28) rfl))) (by decide) (t := (.array .int)) (t' := (.array (.object "java/lang/Object"))) (by decide) (by decide)))
  have Af_200 := Af_183.other W194 (Ne.symm (Nat.ne_of_lt lt_a1_bz26))
  have F_201 := F_184.other W194 (Or.inr (slot_ne (Or.inl (hw _ (List.mem_of_getElem? (i := 14) rfl))) (Or.inl (hw _ (List.mem_of_getElem? (i := 28) rfl))) (by decide) (t := (.array .int)) (t' := (.array (.object "java/lang/Object"))) (by decide) (by decide)))
  have Af_202 := Af_185.other W194 (Ne.symm (Nat.ne_of_lt lt_a1_bz52))
  have F_203 := F_186.other W194 (Or.inr (slot_ne (Or.inl (hw _ (List.mem_of_getElem? (i := 16) rfl))) (Or.inl (hw _ (List.mem_of_getElem? (i := 28) rfl))) (by decide) (t := (.array .int)) (t' := (.array (.object "java/lang/Object"))) (by decide) (by decide)))
  have Af_204 := Af_187.other W194 (Ne.symm (Nat.ne_of_lt lt_a1_bz80))
  have F_205 := F_188.other W194 (Or.inr (slot_ne (Or.inl (hw _ (List.mem_of_getElem? (i := 18) rfl))) (Or.inl (hw _ (List.mem_of_getElem? (i := 28) rfl))) (by decide) (t := (.array .int)) (t' := (.array (.object "java/lang/Object"))) (by decide) (by decide)))
  have Af_206 := Af_189.other W194 (Ne.symm (Nat.ne_of_lt lt_a1_bz110))
  have F_207 := F_190.other W194 (Or.inr (slot_ne (Or.inl (hw _ (List.mem_of_getElem? (i := 22) rfl))) (Or.inl (hw _ (List.mem_of_getElem? (i := 28) rfl))) (by decide) (t := (.array (.object "java/lang/String"))) (t' := (.array (.object "java/lang/Object"))) (by decide) (by decide)))
  have Af_208 := Af_191.other W194 (Ne.symm (Nat.ne_of_lt lt_a1_bz142))
  have F_209 := F_192.other W194 (Or.inr (slot_ne (Or.inl (hw _ (List.mem_of_getElem? (i := 26) rfl))) (Or.inl (hw _ (List.mem_of_getElem? (i := 28) rfl))) (by decide) (t := (.array (.object "java/lang/Object"))) (t' := (.array (.object "java/lang/Object"))) (by decide) (by decide)))
  have Af_210 := V_bz176.other W194 (Ne.symm (Nat.ne_of_lt lt_a1_bz176))
  have N194 := Fr.snoc X194 N159 g_a1
  have K_211 : Keep h0 hz194 [a1] := K_193.wr W194 (Or.inl (List.mem_of_getElem? (i := 0) rfl))
  refine OGo.st st194 ?_
  show OGo p.tables e below _ (T194.setTop (mkF m 70 #[.val (.ref a1), .val (.ref ab)] []))
  refine OGo.st (fun _ k_ => XS.aloadN X194.here hx rfl (hb hby own_d_prog_9_method_1_code_70) rfl rfl k_) ?_
  show OGo p.tables e below _ (T194.setTop (mkF m 71 #[.val (.ref a1), .val (.ref ab)] [(.ref a1)]))
  refine OGo.st (fun _ k_ => XS.aloadN X194.here hx rfl (hb hby own_d_prog_9_method_1_code_71) rfl rfl k_) ?_
  show OGo p.tables e below _ (T194.setTop (mkF m 72 #[.val (.ref a1), .val (.ref ab)] [(.ref ab), (.ref a1)]))
  obtain ⟨T212, hz212, X212, ez212, W212, st212⟩ := putF X194 hx hZ hown (host := "") (Or.inl (hw _ (List.mem_of_getElem? (i := 29) rfl))) Via.refl ez194 F_196 Ex_195 (Or.inr ⟨(hw _ (List.mem_of_getElem? (i := 30) rfl)), rfl, hnm⟩) (hw _ (List.mem_of_getElem? (i := 2) rfl)) (ty := (.array .byte)) (by decide) rfl rfl (g := (mkF m 72 #[.val (.ref a1), .val (.ref ab)] [(.ref ab), (.ref a1)])) rfl rfl (hb hby own_d_prog_9_method_1_code_72)
  have Fw212 : Fld Z hz212 a1 "com/example/nodal_ledger/nodalledger/csv/DistinctFields" "bytes" "[B" (.ref ab) := F_196.same W212
  have Ex_213 := Ex_195.wr W212
  have F_214 := F_197.other W212 (Or.inr (slot_ne (Or.inl (hw _ (List.mem_of_getElem? (i := 48) rfl))) (Or.inr (hw _ (List.mem_of_getElem? (i := 30) rfl))) (by decide) (t := .int) (t' := (.array .byte)) (by decide) (by decide)))
  have Af_215 := Af_198.other W212 (Ne.symm (Nat.ne_of_lt lt_a1_bz2))
  have F_216 := F_199.other W212 (Or.inr (slot_ne (Or.inl (hw _ (List.mem_of_getElem? (i := 12) rfl))) (Or.inr (hw _ (List.mem_of_getElem? (i := 30) rfl))) (by decide) (t := (.array .int)) (t' := (.array .byte)) (by decide) (by decide)))
  have Af_217 := Af_200.other W212 (Ne.symm (Nat.ne_of_lt lt_a1_bz26))
  have F_218 := F_201.other W212 (Or.inr (slot_ne (Or.inl (hw _ (List.mem_of_getElem? (i := 14) rfl))) (Or.inr (hw _ (List.mem_of_getElem? (i := 30) rfl))) (by decide) (t := (.array .int)) (t' := (.array .byte)) (by decide) (by decide)))
  have Af_219 := Af_202.other W212 (Ne.symm (Nat.ne_of_lt lt_a1_bz52))
  have F_220 := F_203.other W212 (Or.inr (slot_ne (Or.inl (hw _ (List.mem_of_getElem? (i := 16) rfl))) (Or.inr (hw _ (List.mem_of_getElem? (i := 30) rfl))) (by decide) (t := (.array .int)) (t' := (.array .byte)) (by decide) (by decide)))
  have Af_221 := Af_204.other W212 (Ne.symm (Nat.ne_of_lt lt_a1_bz80))
  have F_222 := F_205.other W212 (Or.inr (slot_ne (Or.inl (hw _ (List.mem_of_getElem? (i := 18) rfl))) (Or.inr (hw _ (List.mem_of_getElem? (i := 30) rfl))) (by decide) (t := (.array .int)) (t' := (.array .byte)) (by decide) (by decide)))
  have Af_223 := Af_206.other W212 (Ne.symm (Nat.ne_of_lt lt_a1_bz110))
  have F_224 := F_207.other W212 (Or.inr (slot_ne (Or.inl (hw _ (List.mem_of_getElem? (i := 22) rfl))) (Or.inr (hw _ (List.mem_of_getElem? (i := 30) rfl))) (by decide) (t := (.array (.object "java/lang/String"))) (t' := (.array .byte)) (by decide) (by decide)))
  have Af_225 := Af_208.other W212 (Ne.symm (Nat.ne_of_lt lt_a1_bz142))
  have F_226 := F_209.other W212 (Or.inr (slot_ne (Or.inl (hw _ (List.mem_of_getElem? (i := 26) rfl))) (Or.inr (hw _ (List.mem_of_getElem? (i := 30) rfl))) (by decide) (t := (.array (.object "java/lang/Object"))) (t' := (.array .byte)) (by decide) (by decide)))
  have Af_227 := Af_210.other W212 (Ne.symm (Nat.ne_of_lt lt_a1_bz176))
  have F_228 := Fw194.other W212 (Or.inr (slot_ne (Or.inl (hw _ (List.mem_of_getElem? (i := 28) rfl))) (Or.inr (hw _ (List.mem_of_getElem? (i := 30) rfl))) (by decide) (t := (.array (.object "java/lang/Object"))) (t' := (.array .byte)) (by decide) (by decide)))
  have N212 := Fr.snoc X212 N194 g_a1
  have K_229 : Keep h0 hz212 [a1] := K_211.wr W212 (Or.inl (List.mem_of_getElem? (i := 0) rfl))
  refine OGo.st st212 ?_
  show OGo p.tables e below _ (T212.setTop (mkF m 75 #[.val (.ref a1), .val (.ref ab)] []))
  refine OGo.fin X212 (v := none) (fun _ => rfl) hlk (fun fs hr => X212.returnOut hx Bd.returns (hb hby own_d_prog_9_method_1_code_75) hr) ?_ (by decide) (by decide)
  show own_Q_rm1 Z a1 ab h0 n0 _ T212.heap _
  rw [ez212]
  exact ⟨rfl, N212, K_229, bz2, bz26, bz52, bz80, bz142, bz176, kz2, kz26, kz52, kz80, kz142, kz176, sz_bz2, (by omega), (by omega), (by omega), (by omega), (by omega), F_216, F_218, F_220, F_222, F_226, F_228, Fw212, F_214, Af_215, Af_217, Af_219, Af_221, Af_225, Af_227, O142, O176⟩
theorem own_d_prog_9_method_10_code_0 : decode prog_9_method_10_code 0 = .ok (.iload_n 0, 1) := by decide +kernel
theorem own_d_prog_9_method_10_code_1 : decode prog_9_method_10_code 1 = .ok (.iload_n 0, 1) := by decide +kernel
theorem own_d_prog_9_method_10_code_2 : decode prog_9_method_10_code 2 = .ok (.bipush 16, 2) := by decide +kernel
theorem own_d_prog_9_method_10_code_4 : decode prog_9_method_10_code 4 = .ok (.iushr, 1) := by decide +kernel
theorem own_d_prog_9_method_10_code_5 : decode prog_9_method_10_code 5 = .ok (.ixor, 1) := by decide +kernel
theorem own_d_prog_9_method_10_code_6 : decode prog_9_method_10_code 6 = .ok (.ireturn, 1) := by decide +kernel
theorem own_ef_rm2 (m : MethodId) (x0 : Int32) : entryFrame m #[(.int x0)] 1 = mkF m 0 #[.val (.int x0)] [] := by first | (simp [entryFrame, mkF, argsToLocals, Value.category]; done) | rfl
def own_Q_rm2 (Z : State) (p1 : Int32) (h0 : Heap) (n0 : Nat) (v : Option Value) (h : Heap) (L : List Loc) : Prop := v = some (.int (own_sp p1)) ∧ Fr n0 L ∧ h = h0
set_option maxRecDepth 65536 in
set_option maxHeartbeats 40000000 in
theorem rm2 (l : Launch) (Z : State) (a0 : Array Value) (hw : ∀ d ∈ tables_1, d.before a0 Z = true) (ws : List Jvm.Cond) (p1 : Int32) (h0 : Heap) (n0 : Nat) (Z0 : n0 ≤ h0.size)  :
    OMet l Z (⟨"com/example/nodal_ledger/nodalledger/csv/DistinctFields", "spread", "(I)I"⟩ : MethodName) prog_9_method_10_code 1 (some .int) ws ({ frames := 0, cells := 0, slots := 0, locals := 0 } : Room) #[(.int p1)] h0 (own_Q_rm2 Z p1 h0 n0) := by
  refine MetFree.of_bodySF (plainFor_of_name own_pn0) hisR ?_
  intro p e s m args below meth c s₁ Bd hml0 hP hK
  obtain ⟨rfl, hZ, hh⟩ := hP
  have hx := Bd.exec
  have hby := Bd.bytes
  have hml : c.maxLocals = 1 := hml0
  have hown : s.vm.findClass "com/example/nodal_ledger/nodalledger/csv/DistinctFields" = some m.cls := findClass_of_methodNamed Bd.named
  have hnm := (name_of_methodNamed Bd.named Bd.method).1
  have hlk : meth.locks = false := Bd.notSynchronized
  have X0 : Stand p l e ({ frames := 0, cells := 0, slots := 0, locals := 0 } : Room) s m #[(.int p1)] below meth c s₁ [] 0 0 := Stand.of_body Bd
  have e0 : s₁.heap = h0 := by rw [← hh, Bd.state]; rfl
  have N0 := Fr.nil n0
  refine OGo.enter (P := OPost s (own_Q_rm2 Z p1 h0 n0) 0 0) (own_ef_rm2 m p1) ?_
  show OGo p.tables e below _ (s₁.setTop (mkF m 0 #[.val (.int p1)] []))
  refine OGo.st (fun _ k_ => XS.iloadN X0.here hx rfl (hb hby own_d_prog_9_method_10_code_0) rfl k_) ?_
  show OGo p.tables e below _ (s₁.setTop (mkF m 1 #[.val (.int p1)] [(.int p1)]))
  refine OGo.st (fun _ k_ => XS.iloadN X0.here hx rfl (hb hby own_d_prog_9_method_10_code_1) rfl k_) ?_
  show OGo p.tables e below _ (s₁.setTop (mkF m 2 #[.val (.int p1)] [(.int p1), (.int p1)]))
  refine OGo.st (fun _ k_ => XS.bipush X0.here hx rfl (hb hby own_d_prog_9_method_10_code_2) k_) ?_
  show OGo p.tables e below _ (s₁.setTop (mkF m 4 #[.val (.int p1)] [(.int (16 : Int32)), (.int p1), (.int p1)]))
  refine OGo.st (fun _ k_ => XS.iushr X0.here hx rfl (hb hby own_d_prog_9_method_10_code_4) rfl k_) ?_
  show OGo p.tables e below _ (s₁.setTop (mkF m 5 #[.val (.int p1)] [(.int ((p1.toUInt32 >>> ((16 : Int32) &&& 31).toUInt32).toInt32)), (.int p1)]))
  refine OGo.st (fun _ k_ => XS.ixor X0.here hx rfl (hb hby own_d_prog_9_method_10_code_5) rfl k_) ?_
  show OGo p.tables e below _ (s₁.setTop (mkF m 6 #[.val (.int p1)] [(.int (p1 ^^^ ((p1.toUInt32 >>> ((16 : Int32) &&& 31).toUInt32).toInt32)))]))
  refine OGo.fin X0 (v := some (.int (p1 ^^^ ((p1.toUInt32 >>> ((16 : Int32) &&& 31).toUInt32).toInt32)))) (fun h => by rw [Bd.returns] at h; cases h) hlk (fun fs hr => X0.ireturnOut hx Bd.returns rfl (Or.inl rfl) (hb hby own_d_prog_9_method_10_code_6) hr) ?_ (by decide) (by decide)
  show own_Q_rm2 Z p1 h0 n0 _ s₁.heap _
  rw [e0]
  exact ⟨rfl, N0, rfl⟩
theorem own_d_prog_9_method_4_code_0 : decode prog_9_method_4_code 0 = .ok (.iconst (-1), 1) := by decide +kernel
theorem own_d_prog_9_method_4_code_1 : decode prog_9_method_4_code 1 = .ok (.istore 5, 2) := by decide +kernel
theorem own_d_prog_9_method_4_code_3 : decode prog_9_method_4_code 3 = .ok (.aload_n 0, 1) := by decide +kernel
theorem own_d_prog_9_method_4_code_4 : decode prog_9_method_4_code 4 = .ok (.getfield 57, 3) := by decide +kernel
theorem own_d_prog_9_method_4_code_7 : decode prog_9_method_4_code 7 = .ok (.ldc 61, 2) := by decide +kernel
theorem own_d_prog_9_method_4_code_9 : decode prog_9_method_4_code 9 = .ok (.if_icmp .ge 83, 3) := by decide +kernel
theorem own_d_prog_9_method_4_code_12 : decode prog_9_method_4_code 12 = .ok (.aload_n 0, 1) := by decide +kernel
theorem own_d_prog_9_method_4_code_13 : decode prog_9_method_4_code 13 = .ok (.dup, 1) := by decide +kernel
theorem own_d_prog_9_method_4_code_14 : decode prog_9_method_4_code 14 = .ok (.getfield 57, 3) := by decide +kernel
theorem own_d_prog_9_method_4_code_17 : decode prog_9_method_4_code 17 = .ok (.dup_x1, 1) := by decide +kernel
theorem own_d_prog_9_method_4_code_18 : decode prog_9_method_4_code 18 = .ok (.iconst 1, 1) := by decide +kernel
theorem own_d_prog_9_method_4_code_19 : decode prog_9_method_4_code 19 = .ok (.iadd, 1) := by decide +kernel
theorem own_d_prog_9_method_4_code_20 : decode prog_9_method_4_code 20 = .ok (.putfield 57, 3) := by decide +kernel
theorem own_d_prog_9_method_4_code_23 : decode prog_9_method_4_code 23 = .ok (.istore 5, 2) := by decide +kernel
theorem own_d_prog_9_method_4_code_25 : decode prog_9_method_4_code 25 = .ok (.iload 5, 2) := by decide +kernel
theorem own_d_prog_9_method_4_code_27 : decode prog_9_method_4_code 27 = .ok (.aload_n 0, 1) := by decide +kernel
theorem own_d_prog_9_method_4_code_28 : decode prog_9_method_4_code 28 = .ok (.getfield 16, 3) := by decide +kernel
theorem own_d_prog_9_method_4_code_31 : decode prog_9_method_4_code 31 = .ok (.arraylength, 1) := by decide +kernel
theorem own_d_prog_9_method_4_code_32 : decode prog_9_method_4_code 32 = .ok (.if_icmp .ne 7, 3) := by decide +kernel
theorem own_d_prog_9_method_4_code_39 : decode prog_9_method_4_code 39 = .ok (.aload_n 0, 1) := by decide +kernel
theorem own_d_prog_9_method_4_code_40 : decode prog_9_method_4_code 40 = .ok (.getfield 13, 3) := by decide +kernel
theorem own_d_prog_9_method_4_code_43 : decode prog_9_method_4_code 43 = .ok (.iload 5, 2) := by decide +kernel
theorem own_d_prog_9_method_4_code_45 : decode prog_9_method_4_code 45 = .ok (.iload_n 3, 1) := by decide +kernel
theorem own_d_prog_9_method_4_code_46 : decode prog_9_method_4_code 46 = .ok (.iastore, 1) := by decide +kernel
theorem own_d_prog_9_method_4_code_47 : decode prog_9_method_4_code 47 = .ok (.aload_n 0, 1) := by decide +kernel
theorem own_d_prog_9_method_4_code_48 : decode prog_9_method_4_code 48 = .ok (.getfield 16, 3) := by decide +kernel
theorem own_d_prog_9_method_4_code_51 : decode prog_9_method_4_code 51 = .ok (.iload 5, 2) := by decide +kernel
theorem own_d_prog_9_method_4_code_53 : decode prog_9_method_4_code 53 = .ok (.iload_n 1, 1) := by decide +kernel
theorem own_d_prog_9_method_4_code_54 : decode prog_9_method_4_code 54 = .ok (.iastore, 1) := by decide +kernel
theorem own_d_prog_9_method_4_code_55 : decode prog_9_method_4_code 55 = .ok (.aload_n 0, 1) := by decide +kernel
theorem own_d_prog_9_method_4_code_56 : decode prog_9_method_4_code 56 = .ok (.getfield 19, 3) := by decide +kernel
theorem own_d_prog_9_method_4_code_59 : decode prog_9_method_4_code 59 = .ok (.iload 5, 2) := by decide +kernel
theorem own_d_prog_9_method_4_code_61 : decode prog_9_method_4_code 61 = .ok (.iload_n 2, 1) := by decide +kernel
theorem own_d_prog_9_method_4_code_62 : decode prog_9_method_4_code 62 = .ok (.iastore, 1) := by decide +kernel
theorem own_d_prog_9_method_4_code_63 : decode prog_9_method_4_code 63 = .ok (.aload_n 0, 1) := by decide +kernel
theorem own_d_prog_9_method_4_code_64 : decode prog_9_method_4_code 64 = .ok (.getfield 9, 3) := by decide +kernel
theorem own_d_prog_9_method_4_code_67 : decode prog_9_method_4_code 67 = .ok (.iload 4, 2) := by decide +kernel
theorem own_d_prog_9_method_4_code_69 : decode prog_9_method_4_code 69 = .ok (.iload 5, 2) := by decide +kernel
theorem own_d_prog_9_method_4_code_71 : decode prog_9_method_4_code 71 = .ok (.iconst 1, 1) := by decide +kernel
theorem own_d_prog_9_method_4_code_72 : decode prog_9_method_4_code 72 = .ok (.iadd, 1) := by decide +kernel
theorem own_d_prog_9_method_4_code_73 : decode prog_9_method_4_code 73 = .ok (.iastore, 1) := by decide +kernel
theorem own_d_prog_9_method_4_code_74 : decode prog_9_method_4_code 74 = .ok (.iconst 2, 1) := by decide +kernel
theorem own_d_prog_9_method_4_code_75 : decode prog_9_method_4_code 75 = .ok (.aload_n 0, 1) := by decide +kernel
theorem own_d_prog_9_method_4_code_76 : decode prog_9_method_4_code 76 = .ok (.getfield 57, 3) := by decide +kernel
theorem own_d_prog_9_method_4_code_79 : decode prog_9_method_4_code 79 = .ok (.imul, 1) := by decide +kernel
theorem own_d_prog_9_method_4_code_80 : decode prog_9_method_4_code 80 = .ok (.aload_n 0, 1) := by decide +kernel
theorem own_d_prog_9_method_4_code_81 : decode prog_9_method_4_code 81 = .ok (.getfield 9, 3) := by decide +kernel
theorem own_d_prog_9_method_4_code_84 : decode prog_9_method_4_code 84 = .ok (.arraylength, 1) := by decide +kernel
theorem own_d_prog_9_method_4_code_85 : decode prog_9_method_4_code 85 = .ok (.if_icmp .le 7, 3) := by decide +kernel
theorem own_d_prog_9_method_4_code_92 : decode prog_9_method_4_code 92 = .ok (.iload 5, 2) := by decide +kernel
theorem own_d_prog_9_method_4_code_94 : decode prog_9_method_4_code 94 = .ok (.ireturn, 1) := by decide +kernel
theorem own_ef_rm3 (m : MethodId) (x0 : Addr) (x1 : Int32) (x2 : Int32) (x3 : Int32) (x4 : Int32) : entryFrame m #[(.ref x0), (.int x1), (.int x2), (.int x3), (.int x4)] 6 = mkF m 0 #[.val (.ref x0), .val (.int x1), .val (.int x2), .val (.int x3), .val (.int x4), .unset] [] := by first | (simp [entryFrame, mkF, argsToLocals, Value.category]; done) | rfl
def own_Q_rm3 (Z : State) (a1 : Addr) (i1 i2 hs ix : Int32) (at_ ah as_ ae av ar ab : Addr) (kt kh ks ke : ClassId) (ft fh fs fe : Nat → Value) (h0 : Heap) (n0 : Nat) (v : Option Value) (h : Heap) (L : List Loc) : Prop := v = some (.int (0 : Int32)) ∧ Fr n0 L ∧ Keep h0 h [a1, at_, ah, as_, ae] ∧ Fld Z h a1 "com/example/nodal_ledger/nodalledger/csv/DistinctFields" "table" "[I" (.ref at_) ∧ Fld Z h a1 "com/example/nodal_ledger/nodalledger/csv/DistinctFields" "hashes" "[I" (.ref ah) ∧ Fld Z h a1 "com/example/nodal_ledger/nodalledger/csv/DistinctFields" "starts" "[I" (.ref as_) ∧ Fld Z h a1 "com/example/nodal_ledger/nodalledger/csv/DistinctFields" "ends" "[I" (.ref ae) ∧ Fld Z h a1 "com/example/nodal_ledger/nodalledger/csv/DistinctFields" "values" "[Ljava/lang/Object;" (.ref av) ∧ Fld Z h a1 "com/example/nodal_ledger/nodalledger/csv/DistinctFields" "readings" "[Ljava/lang/Object;" (.ref ar) ∧ Fld Z h a1 "com/example/nodal_ledger/nodalledger/csv/DistinctFields" "bytes" "[B" (.ref ab) ∧ Fld Z h a1 "com/example/nodal_ledger/nodalledger/csv/DistinctFields" "count" "I" (.int (1 : Int32)) ∧ Arf Z h at_ kt .int 1024 (own_upd ft ix.toNatClampNeg (.int (1 : Int32))) ∧ Arf Z h ah kh .int 512 (own_upd fh (0 : Int32).toNatClampNeg (.int hs)) ∧ Arf Z h as_ ks .int 512 (own_upd fs (0 : Int32).toNatClampNeg (.int i1)) ∧ Arf Z h ae ke .int 512 (own_upd fe (0 : Int32).toNatClampNeg (.int i2))
set_option maxRecDepth 65536 in
set_option maxHeartbeats 40000000 in
theorem rm3 (l : Launch) (Z : State) (a0 : Array Value) (hw : ∀ d ∈ tables_1, d.before a0 Z = true) (ws : List Jvm.Cond) (a1 : Addr) (i1 i2 hs ix : Int32) (at_ ah as_ ae av ar ab : Addr) (kt kh ks ke : ClassId) (ft fh fs fe : Nat → Value) (h0 : Heap) (n0 : Nat) (Z0 : n0 ≤ h0.size) (E_a1 : Exa Z h0 a1 "com/example/nodal_ledger/nodalledger/csv/DistinctFields") (F_table_a1 : Fld Z h0 a1 "com/example/nodal_ledger/nodalledger/csv/DistinctFields" "table" "[I" (.ref at_)) (F_hashes_a1 : Fld Z h0 a1 "com/example/nodal_ledger/nodalledger/csv/DistinctFields" "hashes" "[I" (.ref ah)) (F_starts_a1 : Fld Z h0 a1 "com/example/nodal_ledger/nodalledger/csv/DistinctFields" "starts" "[I" (.ref as_)) (F_ends_a1 : Fld Z h0 a1 "com/example/nodal_ledger/nodalledger/csv/DistinctFields" "ends" "[I" (.ref ae)) (F_values_a1 : Fld Z h0 a1 "com/example/nodal_ledger/nodalledger/csv/DistinctFields" "values" "[Ljava/lang/Object;" (.ref av)) (F_readings_a1 : Fld Z h0 a1 "com/example/nodal_ledger/nodalledger/csv/DistinctFields" "readings" "[Ljava/lang/Object;" (.ref ar)) (F_bytes_a1 : Fld Z h0 a1 "com/example/nodal_ledger/nodalledger/csv/DistinctFields" "bytes" "[B" (.ref ab)) (F_count_a1 : Fld Z h0 a1 "com/example/nodal_ledger/nodalledger/csv/DistinctFields" "count" "I" (.int (0 : Int32))) (g_a1 : n0 ≤ a1) (A_at_ : Arf Z h0 at_ kt .int 1024 ft) (g_at_ : n0 ≤ at_) (A_ah : Arf Z h0 ah kh .int 512 fh) (g_ah : n0 ≤ ah) (A_as_ : Arf Z h0 as_ ks .int 512 fs) (g_as_ : n0 ≤ as_) (A_ae : Arf Z h0 ae ke .int 512 fe) (g_ae : n0 ≤ ae) (lc0 : Nat.succ ab ≤ a1) (lc1 : Nat.succ a1 ≤ at_) (lc2 : Nat.succ at_ ≤ ah) (lc3 : Nat.succ ah ≤ as_) (lc4 : Nat.succ as_ ≤ ae) (lc5 : Nat.succ ae ≤ av) (lc6 : Nat.succ av ≤ ar) (hix : ¬ ix < 0 ∧ ix < 1024) :
    OMet l Z (⟨"com/example/nodal_ledger/nodalledger/csv/DistinctFields", "added", "(IIII)I"⟩ : MethodName) prog_9_method_4_code 6 (some .int) ws ({ frames := 0, cells := 0, slots := 0, locals := 0 } : Room) #[(.ref a1), (.int i1), (.int i2), (.int hs), (.int ix)] h0 (own_Q_rm3 Z a1 i1 i2 hs ix at_ ah as_ ae av ar ab kt kh ks ke ft fh fs fe h0 n0) := by
  refine MetFree.of_bodySF (plainFor_of_name own_pn0) hisR ?_
  intro p e s m args below meth c s₁ Bd hml0 hP hK
  obtain ⟨rfl, hZ, hh⟩ := hP
  have hx := Bd.exec
  have hby := Bd.bytes
  have hml : c.maxLocals = 6 := hml0
  have hown : s.vm.findClass "com/example/nodal_ledger/nodalledger/csv/DistinctFields" = some m.cls := findClass_of_methodNamed Bd.named
  have hnm := (name_of_methodNamed Bd.named Bd.method).1
  have hlk : meth.locks = false := Bd.notSynchronized
  have X0 : Stand p l e ({ frames := 0, cells := 0, slots := 0, locals := 0 } : Room) s m #[(.ref a1), (.int i1), (.int i2), (.int hs), (.int ix)] below meth c s₁ [] 0 0 := Stand.of_body Bd
  have e0 : s₁.heap = h0 := by rw [← hh, Bd.state]; rfl
  have N0 := Fr.nil n0
  refine OGo.enter (P := OPost s (own_Q_rm3 Z a1 i1 i2 hs ix at_ ah as_ ae av ar ab kt kh ks ke ft fh fs fe h0 n0) 0 0) (own_ef_rm3 m a1 i1 i2 hs ix) ?_
  show OGo p.tables e below _ (s₁.setTop (mkF m 0 #[.val (.ref a1), .val (.int i1), .val (.int i2), .val (.int hs), .val (.int ix), .unset] []))
  refine OGo.st (fun _ k_ => XS.iconst X0.here hx rfl (hb hby own_d_prog_9_method_4_code_0) k_) ?_
  show OGo p.tables e below _ (s₁.setTop (mkF m 1 #[.val (.ref a1), .val (.int i1), .val (.int i2), .val (.int hs), .val (.int ix), .unset] [(.int (-1 : Int32))]))
  refine OGo.st (fun _ k_ => XS.istore X0.here hx rfl (hb hby own_d_prog_9_method_4_code_1) rfl (l' := #[.val (.ref a1), .val (.int i1), .val (.int i2), .val (.int hs), .val (.int ix), .val (.int (-1 : Int32))]) rfl k_) ?_
  show OGo p.tables e below _ (s₁.setTop (mkF m 3 #[.val (.ref a1), .val (.int i1), .val (.int i2), .val (.int hs), .val (.int ix), .val (.int (-1 : Int32))] []))
  refine OGo.st (fun _ k_ => XS.aloadN X0.here hx rfl (hb hby own_d_prog_9_method_4_code_3) rfl rfl k_) ?_
  show OGo p.tables e below _ (s₁.setTop (mkF m 4 #[.val (.ref a1), .val (.int i1), .val (.int i2), .val (.int hs), .val (.int ix), .val (.int (-1 : Int32))] [(.ref a1)]))
  obtain ⟨T1, X1, ez1, st1⟩ := getF X0 hx hZ hown (host := "") (Or.inl (hw _ (List.mem_of_getElem? (i := 47) rfl))) Via.refl e0 F_count_a1 (g := (mkF m 4 #[.val (.ref a1), .val (.int i1), .val (.int i2), .val (.int hs), .val (.int ix), .val (.int (-1 : Int32))] [(.ref a1)])) rfl rfl (hb hby own_d_prog_9_method_4_code_4)
  refine OGo.st st1 ?_
  show OGo p.tables e below _ (T1.setTop (mkF m 7 #[.val (.ref a1), .val (.int i1), .val (.int i2), .val (.int hs), .val (.int ix), .val (.int (-1 : Int32))] [(.int (0 : Int32))]))
  refine OGo.st (fun _ k_ => X1.ldcI hx hown (mvT hZ (hw _ (List.mem_of_getElem? (i := 49) rfl))) rfl (hb hby own_d_prog_9_method_4_code_7) k_) ?_
  show OGo p.tables e below _ (T1.setTop (mkF m 9 #[.val (.ref a1), .val (.int i1), .val (.int i2), .val (.int hs), .val (.int ix), .val (.int (-1 : Int32))] [(.int (65536 : Int32)), (.int (0 : Int32))]))
  refine OGo.st (fun _ k_ => XS.icmpNo X1.here hx rfl (hb hby own_d_prog_9_method_4_code_9) rfl (XT.ii_ge_f (by decide)) k_) ?_
  show OGo p.tables e below _ (T1.setTop (mkF m 12 #[.val (.ref a1), .val (.int i1), .val (.int i2), .val (.int hs), .val (.int ix), .val (.int (-1 : Int32))] []))
  refine OGo.st (fun _ k_ => XS.aloadN X1.here hx rfl (hb hby own_d_prog_9_method_4_code_12) rfl rfl k_) ?_
  show OGo p.tables e below _ (T1.setTop (mkF m 13 #[.val (.ref a1), .val (.int i1), .val (.int i2), .val (.int hs), .val (.int ix), .val (.int (-1 : Int32))] [(.ref a1)]))
  refine OGo.st (fun _ k_ => XS.dup X1.here hx rfl (hb hby own_d_prog_9_method_4_code_13) rfl rfl k_) ?_
  show OGo p.tables e below _ (T1.setTop (mkF m 14 #[.val (.ref a1), .val (.int i1), .val (.int i2), .val (.int hs), .val (.int ix), .val (.int (-1 : Int32))] [(.ref a1), (.ref a1)]))
  obtain ⟨T2, X2, ez2, st2⟩ := getF X1 hx hZ hown (host := "") (Or.inl (hw _ (List.mem_of_getElem? (i := 47) rfl))) Via.refl ez1 F_count_a1 (g := (mkF m 14 #[.val (.ref a1), .val (.int i1), .val (.int i2), .val (.int hs), .val (.int ix), .val (.int (-1 : Int32))] [(.ref a1), (.ref a1)])) rfl rfl (hb hby own_d_prog_9_method_4_code_14)
  refine OGo.st st2 ?_
  show OGo p.tables e below _ (T2.setTop (mkF m 17 #[.val (.ref a1), .val (.int i1), .val (.int i2), .val (.int hs), .val (.int ix), .val (.int (-1 : Int32))] [(.int (0 : Int32)), (.ref a1)]))
  refine OGo.st (fun _ k_ => XS.dupX1 X2.here hx rfl (hb hby own_d_prog_9_method_4_code_17) rfl rfl rfl k_) ?_
  show OGo p.tables e below _ (T2.setTop (mkF m 18 #[.val (.ref a1), .val (.int i1), .val (.int i2), .val (.int hs), .val (.int ix), .val (.int (-1 : Int32))] [(.int (0 : Int32)), (.ref a1), (.int (0 : Int32))]))
  refine OGo.st (fun _ k_ => XS.iconst X2.here hx rfl (hb hby own_d_prog_9_method_4_code_18) k_) ?_
  show OGo p.tables e below _ (T2.setTop (mkF m 19 #[.val (.ref a1), .val (.int i1), .val (.int i2), .val (.int hs), .val (.int ix), .val (.int (-1 : Int32))] [(.int (1 : Int32)), (.int (0 : Int32)), (.ref a1), (.int (0 : Int32))]))
  refine OGo.st (fun _ k_ => XS.iadd X2.here hx rfl (hb hby own_d_prog_9_method_4_code_19) rfl k_) ?_
  show OGo p.tables e below _ (T2.setTop (mkF m 20 #[.val (.ref a1), .val (.int i1), .val (.int i2), .val (.int hs), .val (.int ix), .val (.int (-1 : Int32))] [(.int (1 : Int32)), (.ref a1), (.int (0 : Int32))]))
  obtain ⟨T3, hz3, X3, ez3, W3, st3⟩ := putF X2 hx hZ hown (host := "") (Or.inl (hw _ (List.mem_of_getElem? (i := 47) rfl))) Via.refl ez2 F_count_a1 E_a1 (Or.inl (hw _ (List.mem_of_getElem? (i := 48) rfl))) (hw _ (List.mem_of_getElem? (i := 2) rfl)) (ty := .int) (by decide) rfl rfl (g := (mkF m 20 #[.val (.ref a1), .val (.int i1), .val (.int i2), .val (.int hs), .val (.int ix), .val (.int (-1 : Int32))] [(.int (1 : Int32)), (.ref a1), (.int (0 : Int32))])) rfl rfl (hb hby own_d_prog_9_method_4_code_20)
  have Fw3 : Fld Z hz3 a1 "com/example/nodal_ledger/nodalledger/csv/DistinctFields" "count" "I" (.int (1 : Int32)) := F_count_a1.same W3
  have Ex_4 := E_a1.wr W3
  have F_5 := F_table_a1.other W3 (Or.inr (slot_ne (Or.inl (hw _ (List.mem_of_getElem? (i := 12) rfl))) (Or.inl (hw _ (List.mem_of_getElem? (i := 48) rfl))) (by decide) (t := (.array .int)) (t' := .int) (by decide) (by decide)))
  have F_6 := F_hashes_a1.other W3 (Or.inr (slot_ne (Or.inl (hw _ (List.mem_of_getElem? (i := 14) rfl))) (Or.inl (hw _ (List.mem_of_getElem? (i := 48) rfl))) (by decide) (t := (.array .int)) (t' := .int) (by decide) (by decide)))
  have F_7 := F_starts_a1.other W3 (Or.inr (slot_ne (Or.inl (hw _ (List.mem_of_getElem? (i := 16) rfl))) (Or.inl (hw _ (List.mem_of_getElem? (i := 48) rfl))) (by decide) (t := (.array .int)) (t' := .int) (by decide) (by decide)))
  have F_8 := F_ends_a1.other W3 (Or.inr (slot_ne (Or.inl (hw _ (List.mem_of_getElem? (i := 18) rfl))) (Or.inl (hw _ (List.mem_of_getElem? (i := 48) rfl))) (by decide) (t := (.array .int)) (t' := .int) (by decide) (by decide)))
  have F_9 := F_values_a1.other W3 (Or.inr (slot_ne (Or.inl (hw _ (List.mem_of_getElem? (i := 26) rfl))) (Or.inl (hw _ (List.mem_of_getElem? (i := 48) rfl))) (by decide) (t := (.array (.object "java/lang/Object"))) (t' := .int) (by decide) (by decide)))
  have F_10 := F_readings_a1.other W3 (Or.inr (slot_ne (Or.inl (hw _ (List.mem_of_getElem? (i := 28) rfl))) (Or.inl (hw _ (List.mem_of_getElem? (i := 48) rfl))) (by decide) (t := (.array (.object "java/lang/Object"))) (t' := .int) (by decide) (by decide)))
  have F_11 := F_bytes_a1.other W3 (Or.inr (slot_ne (Or.inr (hw _ (List.mem_of_getElem? (i := 30) rfl))) (Or.inl (hw _ (List.mem_of_getElem? (i := 48) rfl))) (by decide) (t := (.array .byte)) (t' := .int) (by decide) (by decide)))
  have Af_12 := A_at_.other W3 (show @Ne Nat at_ a1 by omega)
  have Af_13 := A_ah.other W3 (show @Ne Nat ah a1 by omega)
  have Af_14 := A_as_.other W3 (show @Ne Nat as_ a1 by omega)
  have Af_15 := A_ae.other W3 (show @Ne Nat ae a1 by omega)
  have N3 := Fr.snoc X3 N0 g_a1
  have K_16 : Keep h0 hz3 [a1, at_, ah, as_, ae] := (Keep.refl h0 [a1, at_, ah, as_, ae]).wr W3 (Or.inl (List.mem_of_getElem? (i := 0) rfl))
  refine OGo.st st3 ?_
  show OGo p.tables e below _ (T3.setTop (mkF m 23 #[.val (.ref a1), .val (.int i1), .val (.int i2), .val (.int hs), .val (.int ix), .val (.int (-1 : Int32))] [(.int (0 : Int32))]))
  refine OGo.st (fun _ k_ => XS.istore X3.here hx rfl (hb hby own_d_prog_9_method_4_code_23) rfl (l' := #[.val (.ref a1), .val (.int i1), .val (.int i2), .val (.int hs), .val (.int ix), .val (.int (0 : Int32))]) rfl k_) ?_
  show OGo p.tables e below _ (T3.setTop (mkF m 25 #[.val (.ref a1), .val (.int i1), .val (.int i2), .val (.int hs), .val (.int ix), .val (.int (0 : Int32))] []))
  refine OGo.st (fun _ k_ => XS.iload X3.here hx rfl (hb hby own_d_prog_9_method_4_code_25) rfl k_) ?_
  show OGo p.tables e below _ (T3.setTop (mkF m 27 #[.val (.ref a1), .val (.int i1), .val (.int i2), .val (.int hs), .val (.int ix), .val (.int (0 : Int32))] [(.int (0 : Int32))]))
  refine OGo.st (fun _ k_ => XS.aloadN X3.here hx rfl (hb hby own_d_prog_9_method_4_code_27) rfl rfl k_) ?_
  show OGo p.tables e below _ (T3.setTop (mkF m 28 #[.val (.ref a1), .val (.int i1), .val (.int i2), .val (.int hs), .val (.int ix), .val (.int (0 : Int32))] [(.ref a1), (.int (0 : Int32))]))
  obtain ⟨T17, X17, ez17, st17⟩ := getF X3 hx hZ hown (host := "") (Or.inl (hw _ (List.mem_of_getElem? (i := 15) rfl))) Via.refl ez3 F_7 (g := (mkF m 28 #[.val (.ref a1), .val (.int i1), .val (.int i2), .val (.int hs), .val (.int ix), .val (.int (0 : Int32))] [(.ref a1), (.int (0 : Int32))])) rfl rfl (hb hby own_d_prog_9_method_4_code_28)
  refine OGo.st st17 ?_
  show OGo p.tables e below _ (T17.setTop (mkF m 31 #[.val (.ref a1), .val (.int i1), .val (.int i2), .val (.int hs), .val (.int ix), .val (.int (0 : Int32))] [(.ref as_), (.int (0 : Int32))]))
  have qz18 := own_alen X17 hx hZ ez17 Af_14 (g := (mkF m 31 #[.val (.ref a1), .val (.int i1), .val (.int i2), .val (.int hs), .val (.int ix), .val (.int (0 : Int32))] [(.ref as_), (.int (0 : Int32))])) rfl rfl (hb hby own_d_prog_9_method_4_code_31)
  refine OGo.st qz18 ?_
  show OGo p.tables e below _ (T17.setTop (mkF m 32 #[.val (.ref a1), .val (.int i1), .val (.int i2), .val (.int hs), .val (.int ix), .val (.int (0 : Int32))] [(.int (512 : Int32)), (.int (0 : Int32))]))
  refine OGo.st (fun _ k_ => XS.icmpYes X17.here hx rfl (pc0 := 32) (pc' := 39) rfl (hb hby own_d_prog_9_method_4_code_32) rfl (XT.ii_ne_t (by decide)) (by decide) (by decide) k_) ?_
  show OGo p.tables e below _ (T17.setTop (mkF m 39 #[.val (.ref a1), .val (.int i1), .val (.int i2), .val (.int hs), .val (.int ix), .val (.int (0 : Int32))] []))
  refine OGo.st (fun _ k_ => XS.aloadN X17.here hx rfl (hb hby own_d_prog_9_method_4_code_39) rfl rfl k_) ?_
  show OGo p.tables e below _ (T17.setTop (mkF m 40 #[.val (.ref a1), .val (.int i1), .val (.int i2), .val (.int hs), .val (.int ix), .val (.int (0 : Int32))] [(.ref a1)]))
  obtain ⟨T19, X19, ez19, st19⟩ := getF X17 hx hZ hown (host := "") (Or.inl (hw _ (List.mem_of_getElem? (i := 13) rfl))) Via.refl ez17 F_6 (g := (mkF m 40 #[.val (.ref a1), .val (.int i1), .val (.int i2), .val (.int hs), .val (.int ix), .val (.int (0 : Int32))] [(.ref a1)])) rfl rfl (hb hby own_d_prog_9_method_4_code_40)
  refine OGo.st st19 ?_
  show OGo p.tables e below _ (T19.setTop (mkF m 43 #[.val (.ref a1), .val (.int i1), .val (.int i2), .val (.int hs), .val (.int ix), .val (.int (0 : Int32))] [(.ref ah)]))
  refine OGo.st (fun _ k_ => XS.iload X19.here hx rfl (hb hby own_d_prog_9_method_4_code_43) rfl k_) ?_
  show OGo p.tables e below _ (T19.setTop (mkF m 45 #[.val (.ref a1), .val (.int i1), .val (.int i2), .val (.int hs), .val (.int ix), .val (.int (0 : Int32))] [(.int (0 : Int32)), (.ref ah)]))
  refine OGo.st (fun _ k_ => XS.iloadN X19.here hx rfl (hb hby own_d_prog_9_method_4_code_45) rfl k_) ?_
  show OGo p.tables e below _ (T19.setTop (mkF m 46 #[.val (.ref a1), .val (.int i1), .val (.int i2), .val (.int hs), .val (.int ix), .val (.int (0 : Int32))] [(.int hs), (.int (0 : Int32)), (.ref ah)]))
  obtain ⟨T20, hz20, X20, ez20, W20, V20, st20⟩ := own_stI X19 hx hZ ez19 Af_13 (j := (0 : Int32)) (by decide)  (g := (mkF m 46 #[.val (.ref a1), .val (.int i1), .val (.int i2), .val (.int hs), .val (.int ix), .val (.int (0 : Int32))] [(.int hs), (.int (0 : Int32)), (.ref ah)])) rfl rfl (hb hby own_d_prog_9_method_4_code_46)
  have Ex_21 := Ex_4.wr W20
  have F_22 := F_5.other W20 (Or.inl (show @Ne Nat a1 ah by omega))
  have F_23 := F_6.other W20 (Or.inl (show @Ne Nat a1 ah by omega))
  have F_24 := F_7.other W20 (Or.inl (show @Ne Nat a1 ah by omega))
  have F_25 := F_8.other W20 (Or.inl (show @Ne Nat a1 ah by omega))
  have F_26 := F_9.other W20 (Or.inl (show @Ne Nat a1 ah by omega))
  have F_27 := F_10.other W20 (Or.inl (show @Ne Nat a1 ah by omega))
  have F_28 := F_11.other W20 (Or.inl (show @Ne Nat a1 ah by omega))
  have Af_29 := Af_12.other W20 (show @Ne Nat at_ ah by omega)
  have Af_30 := Af_14.other W20 (show @Ne Nat as_ ah by omega)
  have Af_31 := Af_15.other W20 (show @Ne Nat ae ah by omega)
  have F_32 := Fw3.other W20 (Or.inl (show @Ne Nat a1 ah by omega))
  have N20 := Fr.snoc X20 N3 g_ah
  have K_33 : Keep h0 hz20 [a1, at_, ah, as_, ae] := K_16.wr W20 (Or.inl (List.mem_of_getElem? (i := 2) rfl))
  refine OGo.st st20 ?_
  show OGo p.tables e below _ (T20.setTop (mkF m 47 #[.val (.ref a1), .val (.int i1), .val (.int i2), .val (.int hs), .val (.int ix), .val (.int (0 : Int32))] []))
  refine OGo.st (fun _ k_ => XS.aloadN X20.here hx rfl (hb hby own_d_prog_9_method_4_code_47) rfl rfl k_) ?_
  show OGo p.tables e below _ (T20.setTop (mkF m 48 #[.val (.ref a1), .val (.int i1), .val (.int i2), .val (.int hs), .val (.int ix), .val (.int (0 : Int32))] [(.ref a1)]))
  obtain ⟨T34, X34, ez34, st34⟩ := getF X20 hx hZ hown (host := "") (Or.inl (hw _ (List.mem_of_getElem? (i := 15) rfl))) Via.refl ez20 F_24 (g := (mkF m 48 #[.val (.ref a1), .val (.int i1), .val (.int i2), .val (.int hs), .val (.int ix), .val (.int (0 : Int32))] [(.ref a1)])) rfl rfl (hb hby own_d_prog_9_method_4_code_48)
  refine OGo.st st34 ?_
  show OGo p.tables e below _ (T34.setTop (mkF m 51 #[.val (.ref a1), .val (.int i1), .val (.int i2), .val (.int hs), .val (.int ix), .val (.int (0 : Int32))] [(.ref as_)]))
  refine OGo.st (fun _ k_ => XS.iload X34.here hx rfl (hb hby own_d_prog_9_method_4_code_51) rfl k_) ?_
  show OGo p.tables e below _ (T34.setTop (mkF m 53 #[.val (.ref a1), .val (.int i1), .val (.int i2), .val (.int hs), .val (.int ix), .val (.int (0 : Int32))] [(.int (0 : Int32)), (.ref as_)]))
  refine OGo.st (fun _ k_ => XS.iloadN X34.here hx rfl (hb hby own_d_prog_9_method_4_code_53) rfl k_) ?_
  show OGo p.tables e below _ (T34.setTop (mkF m 54 #[.val (.ref a1), .val (.int i1), .val (.int i2), .val (.int hs), .val (.int ix), .val (.int (0 : Int32))] [(.int i1), (.int (0 : Int32)), (.ref as_)]))
  obtain ⟨T35, hz35, X35, ez35, W35, V35, st35⟩ := own_stI X34 hx hZ ez34 Af_30 (j := (0 : Int32)) (by decide)  (g := (mkF m 54 #[.val (.ref a1), .val (.int i1), .val (.int i2), .val (.int hs), .val (.int ix), .val (.int (0 : Int32))] [(.int i1), (.int (0 : Int32)), (.ref as_)])) rfl rfl (hb hby own_d_prog_9_method_4_code_54)
  have Ex_36 := Ex_21.wr W35
  have F_37 := F_22.other W35 (Or.inl (show @Ne Nat a1 as_ by omega))
  have F_38 := F_23.other W35 (Or.inl (show @Ne Nat a1 as_ by omega))
  have F_39 := F_24.other W35 (Or.inl (show @Ne Nat a1 as_ by omega))
  have F_40 := F_25.other W35 (Or.inl (show @Ne Nat a1 as_ by omega))
  have F_41 := F_26.other W35 (Or.inl (show @Ne Nat a1 as_ by omega))
  have F_42 := F_27.other W35 (Or.inl (show @Ne Nat a1 as_ by omega))
  have F_43 := F_28.other W35 (Or.inl (show @Ne Nat a1 as_ by omega))
  have Af_44 := Af_29.other W35 (show @Ne Nat at_ as_ by omega)
  have Af_45 := Af_31.other W35 (show @Ne Nat ae as_ by omega)
  have F_46 := F_32.other W35 (Or.inl (show @Ne Nat a1 as_ by omega))
  have Af_47 := V20.other W35 (show @Ne Nat ah as_ by omega)
  have N35 := Fr.snoc X35 N20 g_as_
  have K_48 : Keep h0 hz35 [a1, at_, ah, as_, ae] := K_33.wr W35 (Or.inl (List.mem_of_getElem? (i := 3) rfl))
  refine OGo.st st35 ?_
  show OGo p.tables e below _ (T35.setTop (mkF m 55 #[.val (.ref a1), .val (.int i1), .val (.int i2), .val (.int hs), .val (.int ix), .val (.int (0 : Int32))] []))
  refine OGo.st (fun _ k_ => XS.aloadN X35.here hx rfl (hb hby own_d_prog_9_method_4_code_55) rfl rfl k_) ?_
  show OGo p.tables e below _ (T35.setTop (mkF m 56 #[.val (.ref a1), .val (.int i1), .val (.int i2), .val (.int hs), .val (.int ix), .val (.int (0 : Int32))] [(.ref a1)]))
  obtain ⟨T49, X49, ez49, st49⟩ := getF X35 hx hZ hown (host := "") (Or.inl (hw _ (List.mem_of_getElem? (i := 17) rfl))) Via.refl ez35 F_40 (g := (mkF m 56 #[.val (.ref a1), .val (.int i1), .val (.int i2), .val (.int hs), .val (.int ix), .val (.int (0 : Int32))] [(.ref a1)])) rfl rfl (hb hby own_d_prog_9_method_4_code_56)
  refine OGo.st st49 ?_
  show OGo p.tables e below _ (T49.setTop (mkF m 59 #[.val (.ref a1), .val (.int i1), .val (.int i2), .val (.int hs), .val (.int ix), .val (.int (0 : Int32))] [(.ref ae)]))
  refine OGo.st (fun _ k_ => XS.iload X49.here hx rfl (hb hby own_d_prog_9_method_4_code_59) rfl k_) ?_
  show OGo p.tables e below _ (T49.setTop (mkF m 61 #[.val (.ref a1), .val (.int i1), .val (.int i2), .val (.int hs), .val (.int ix), .val (.int (0 : Int32))] [(.int (0 : Int32)), (.ref ae)]))
  refine OGo.st (fun _ k_ => XS.iloadN X49.here hx rfl (hb hby own_d_prog_9_method_4_code_61) rfl k_) ?_
  show OGo p.tables e below _ (T49.setTop (mkF m 62 #[.val (.ref a1), .val (.int i1), .val (.int i2), .val (.int hs), .val (.int ix), .val (.int (0 : Int32))] [(.int i2), (.int (0 : Int32)), (.ref ae)]))
  obtain ⟨T50, hz50, X50, ez50, W50, V50, st50⟩ := own_stI X49 hx hZ ez49 Af_45 (j := (0 : Int32)) (by decide)  (g := (mkF m 62 #[.val (.ref a1), .val (.int i1), .val (.int i2), .val (.int hs), .val (.int ix), .val (.int (0 : Int32))] [(.int i2), (.int (0 : Int32)), (.ref ae)])) rfl rfl (hb hby own_d_prog_9_method_4_code_62)
  have Ex_51 := Ex_36.wr W50
  have F_52 := F_37.other W50 (Or.inl (show @Ne Nat a1 ae by omega))
  have F_53 := F_38.other W50 (Or.inl (show @Ne Nat a1 ae by omega))
  have F_54 := F_39.other W50 (Or.inl (show @Ne Nat a1 ae by omega))
  have F_55 := F_40.other W50 (Or.inl (show @Ne Nat a1 ae by omega))
  have F_56 := F_41.other W50 (Or.inl (show @Ne Nat a1 ae by omega))
  have F_57 := F_42.other W50 (Or.inl (show @Ne Nat a1 ae by omega))
  have F_58 := F_43.other W50 (Or.inl (show @Ne Nat a1 ae by omega))
  have Af_59 := Af_44.other W50 (show @Ne Nat at_ ae by omega)
  have F_60 := F_46.other W50 (Or.inl (show @Ne Nat a1 ae by omega))
  have Af_61 := Af_47.other W50 (show @Ne Nat ah ae by omega)
  have Af_62 := V35.other W50 (show @Ne Nat as_ ae by omega)
  have N50 := Fr.snoc X50 N35 g_ae
  have K_63 : Keep h0 hz50 [a1, at_, ah, as_, ae] := K_48.wr W50 (Or.inl (List.mem_of_getElem? (i := 4) rfl))
  refine OGo.st st50 ?_
  show OGo p.tables e below _ (T50.setTop (mkF m 63 #[.val (.ref a1), .val (.int i1), .val (.int i2), .val (.int hs), .val (.int ix), .val (.int (0 : Int32))] []))
  refine OGo.st (fun _ k_ => XS.aloadN X50.here hx rfl (hb hby own_d_prog_9_method_4_code_63) rfl rfl k_) ?_
  show OGo p.tables e below _ (T50.setTop (mkF m 64 #[.val (.ref a1), .val (.int i1), .val (.int i2), .val (.int hs), .val (.int ix), .val (.int (0 : Int32))] [(.ref a1)]))
  obtain ⟨T64, X64, ez64, st64⟩ := getF X50 hx hZ hown (host := "") (Or.inl (hw _ (List.mem_of_getElem? (i := 11) rfl))) Via.refl ez50 F_52 (g := (mkF m 64 #[.val (.ref a1), .val (.int i1), .val (.int i2), .val (.int hs), .val (.int ix), .val (.int (0 : Int32))] [(.ref a1)])) rfl rfl (hb hby own_d_prog_9_method_4_code_64)
  refine OGo.st st64 ?_
  show OGo p.tables e below _ (T64.setTop (mkF m 67 #[.val (.ref a1), .val (.int i1), .val (.int i2), .val (.int hs), .val (.int ix), .val (.int (0 : Int32))] [(.ref at_)]))
  refine OGo.st (fun _ k_ => XS.iload X64.here hx rfl (hb hby own_d_prog_9_method_4_code_67) rfl k_) ?_
  show OGo p.tables e below _ (T64.setTop (mkF m 69 #[.val (.ref a1), .val (.int i1), .val (.int i2), .val (.int hs), .val (.int ix), .val (.int (0 : Int32))] [(.int ix), (.ref at_)]))
  refine OGo.st (fun _ k_ => XS.iload X64.here hx rfl (hb hby own_d_prog_9_method_4_code_69) rfl k_) ?_
  show OGo p.tables e below _ (T64.setTop (mkF m 71 #[.val (.ref a1), .val (.int i1), .val (.int i2), .val (.int hs), .val (.int ix), .val (.int (0 : Int32))] [(.int (0 : Int32)), (.int ix), (.ref at_)]))
  refine OGo.st (fun _ k_ => XS.iconst X64.here hx rfl (hb hby own_d_prog_9_method_4_code_71) k_) ?_
  show OGo p.tables e below _ (T64.setTop (mkF m 72 #[.val (.ref a1), .val (.int i1), .val (.int i2), .val (.int hs), .val (.int ix), .val (.int (0 : Int32))] [(.int (1 : Int32)), (.int (0 : Int32)), (.int ix), (.ref at_)]))
  refine OGo.st (fun _ k_ => XS.iadd X64.here hx rfl (hb hby own_d_prog_9_method_4_code_72) rfl k_) ?_
  show OGo p.tables e below _ (T64.setTop (mkF m 73 #[.val (.ref a1), .val (.int i1), .val (.int i2), .val (.int hs), .val (.int ix), .val (.int (0 : Int32))] [(.int (1 : Int32)), (.int ix), (.ref at_)]))
  obtain ⟨T65, hz65, X65, ez65, W65, V65, st65⟩ := own_stI X64 hx hZ ez64 Af_59 (j := ix) hix  (g := (mkF m 73 #[.val (.ref a1), .val (.int i1), .val (.int i2), .val (.int hs), .val (.int ix), .val (.int (0 : Int32))] [(.int (1 : Int32)), (.int ix), (.ref at_)])) rfl rfl (hb hby own_d_prog_9_method_4_code_73)
  have Ex_66 := Ex_51.wr W65
  have F_67 := F_52.other W65 (Or.inl (show @Ne Nat a1 at_ by omega))
  have F_68 := F_53.other W65 (Or.inl (show @Ne Nat a1 at_ by omega))
  have F_69 := F_54.other W65 (Or.inl (show @Ne Nat a1 at_ by omega))
  have F_70 := F_55.other W65 (Or.inl (show @Ne Nat a1 at_ by omega))
  have F_71 := F_56.other W65 (Or.inl (show @Ne Nat a1 at_ by omega))
  have F_72 := F_57.other W65 (Or.inl (show @Ne Nat a1 at_ by omega))
  have F_73 := F_58.other W65 (Or.inl (show @Ne Nat a1 at_ by omega))
  have F_74 := F_60.other W65 (Or.inl (show @Ne Nat a1 at_ by omega))
  have Af_75 := Af_61.other W65 (show @Ne Nat ah at_ by omega)
  have Af_76 := Af_62.other W65 (show @Ne Nat as_ at_ by omega)
  have Af_77 := V50.other W65 (show @Ne Nat ae at_ by omega)
  have N65 := Fr.snoc X65 N50 g_at_
  have K_78 : Keep h0 hz65 [a1, at_, ah, as_, ae] := K_63.wr W65 (Or.inl (List.mem_of_getElem? (i := 1) rfl))
  refine OGo.st st65 ?_
  show OGo p.tables e below _ (T65.setTop (mkF m 74 #[.val (.ref a1), .val (.int i1), .val (.int i2), .val (.int hs), .val (.int ix), .val (.int (0 : Int32))] []))
  refine OGo.st (fun _ k_ => XS.iconst X65.here hx rfl (hb hby own_d_prog_9_method_4_code_74) k_) ?_
  show OGo p.tables e below _ (T65.setTop (mkF m 75 #[.val (.ref a1), .val (.int i1), .val (.int i2), .val (.int hs), .val (.int ix), .val (.int (0 : Int32))] [(.int (2 : Int32))]))
  refine OGo.st (fun _ k_ => XS.aloadN X65.here hx rfl (hb hby own_d_prog_9_method_4_code_75) rfl rfl k_) ?_
  show OGo p.tables e below _ (T65.setTop (mkF m 76 #[.val (.ref a1), .val (.int i1), .val (.int i2), .val (.int hs), .val (.int ix), .val (.int (0 : Int32))] [(.ref a1), (.int (2 : Int32))]))
  obtain ⟨T79, X79, ez79, st79⟩ := getF X65 hx hZ hown (host := "") (Or.inl (hw _ (List.mem_of_getElem? (i := 47) rfl))) Via.refl ez65 F_74 (g := (mkF m 76 #[.val (.ref a1), .val (.int i1), .val (.int i2), .val (.int hs), .val (.int ix), .val (.int (0 : Int32))] [(.ref a1), (.int (2 : Int32))])) rfl rfl (hb hby own_d_prog_9_method_4_code_76)
  refine OGo.st st79 ?_
  show OGo p.tables e below _ (T79.setTop (mkF m 79 #[.val (.ref a1), .val (.int i1), .val (.int i2), .val (.int hs), .val (.int ix), .val (.int (0 : Int32))] [(.int (1 : Int32)), (.int (2 : Int32))]))
  refine OGo.st (fun _ k_ => XS.imul X79.here hx rfl (hb hby own_d_prog_9_method_4_code_79) rfl k_) ?_
  show OGo p.tables e below _ (T79.setTop (mkF m 80 #[.val (.ref a1), .val (.int i1), .val (.int i2), .val (.int hs), .val (.int ix), .val (.int (0 : Int32))] [(.int (2 : Int32))]))
  refine OGo.st (fun _ k_ => XS.aloadN X79.here hx rfl (hb hby own_d_prog_9_method_4_code_80) rfl rfl k_) ?_
  show OGo p.tables e below _ (T79.setTop (mkF m 81 #[.val (.ref a1), .val (.int i1), .val (.int i2), .val (.int hs), .val (.int ix), .val (.int (0 : Int32))] [(.ref a1), (.int (2 : Int32))]))
  obtain ⟨T80, X80, ez80, st80⟩ := getF X79 hx hZ hown (host := "") (Or.inl (hw _ (List.mem_of_getElem? (i := 11) rfl))) Via.refl ez79 F_67 (g := (mkF m 81 #[.val (.ref a1), .val (.int i1), .val (.int i2), .val (.int hs), .val (.int ix), .val (.int (0 : Int32))] [(.ref a1), (.int (2 : Int32))])) rfl rfl (hb hby own_d_prog_9_method_4_code_81)
  refine OGo.st st80 ?_
  show OGo p.tables e below _ (T80.setTop (mkF m 84 #[.val (.ref a1), .val (.int i1), .val (.int i2), .val (.int hs), .val (.int ix), .val (.int (0 : Int32))] [(.ref at_), (.int (2 : Int32))]))
  have qz81 := own_alen X80 hx hZ ez80 V65 (g := (mkF m 84 #[.val (.ref a1), .val (.int i1), .val (.int i2), .val (.int hs), .val (.int ix), .val (.int (0 : Int32))] [(.ref at_), (.int (2 : Int32))])) rfl rfl (hb hby own_d_prog_9_method_4_code_84)
  refine OGo.st qz81 ?_
  show OGo p.tables e below _ (T80.setTop (mkF m 85 #[.val (.ref a1), .val (.int i1), .val (.int i2), .val (.int hs), .val (.int ix), .val (.int (0 : Int32))] [(.int (1024 : Int32)), (.int (2 : Int32))]))
  refine OGo.st (fun _ k_ => XS.icmpYes X80.here hx rfl (pc0 := 85) (pc' := 92) rfl (hb hby own_d_prog_9_method_4_code_85) rfl (XT.ii_le_t (by decide)) (by decide) (by decide) k_) ?_
  show OGo p.tables e below _ (T80.setTop (mkF m 92 #[.val (.ref a1), .val (.int i1), .val (.int i2), .val (.int hs), .val (.int ix), .val (.int (0 : Int32))] []))
  refine OGo.st (fun _ k_ => XS.iload X80.here hx rfl (hb hby own_d_prog_9_method_4_code_92) rfl k_) ?_
  show OGo p.tables e below _ (T80.setTop (mkF m 94 #[.val (.ref a1), .val (.int i1), .val (.int i2), .val (.int hs), .val (.int ix), .val (.int (0 : Int32))] [(.int (0 : Int32))]))
  refine OGo.fin X80 (v := some (.int (0 : Int32))) (fun h => by rw [Bd.returns] at h; cases h) hlk (fun fs hr => X80.ireturnOut hx Bd.returns rfl (Or.inl rfl) (hb hby own_d_prog_9_method_4_code_94) hr) ?_ (by decide) (by decide)
  show own_Q_rm3 Z a1 i1 i2 hs ix at_ ah as_ ae av ar ab kt kh ks ke ft fh fs fe h0 n0 _ T80.heap _
  rw [ez80]
  exact ⟨rfl, N65, K_78, F_67, F_68, F_69, F_70, F_71, F_72, F_73, F_74, V65, Af_75, Af_76, Af_77⟩
theorem own_ef_rm4 (m : MethodId) (x0 : Addr) (x1 : Int32) (x2 : Int32) (x3 : Int32) (x4 : Int32) : entryFrame m #[(.ref x0), (.int x1), (.int x2), (.int x3), (.int x4)] 6 = mkF m 0 #[.val (.ref x0), .val (.int x1), .val (.int x2), .val (.int x3), .val (.int x4), .unset] [] := by first | (simp [entryFrame, mkF, argsToLocals, Value.category]; done) | rfl
def own_Q_rm4 (Z : State) (a1 : Addr) (i1 i2 hs ix : Int32) (at_ ah as_ ae av ar ab : Addr) (kt kh ks ke : ClassId) (ft fh fs fe : Nat → Value) (h0 : Heap) (n0 : Nat) (v : Option Value) (h : Heap) (L : List Loc) : Prop := v = some (.int (1 : Int32)) ∧ Fr n0 L ∧ Keep h0 h [a1, at_, ah, as_, ae] ∧ Fld Z h a1 "com/example/nodal_ledger/nodalledger/csv/DistinctFields" "table" "[I" (.ref at_) ∧ Fld Z h a1 "com/example/nodal_ledger/nodalledger/csv/DistinctFields" "hashes" "[I" (.ref ah) ∧ Fld Z h a1 "com/example/nodal_ledger/nodalledger/csv/DistinctFields" "starts" "[I" (.ref as_) ∧ Fld Z h a1 "com/example/nodal_ledger/nodalledger/csv/DistinctFields" "ends" "[I" (.ref ae) ∧ Fld Z h a1 "com/example/nodal_ledger/nodalledger/csv/DistinctFields" "values" "[Ljava/lang/Object;" (.ref av) ∧ Fld Z h a1 "com/example/nodal_ledger/nodalledger/csv/DistinctFields" "readings" "[Ljava/lang/Object;" (.ref ar) ∧ Fld Z h a1 "com/example/nodal_ledger/nodalledger/csv/DistinctFields" "bytes" "[B" (.ref ab) ∧ Fld Z h a1 "com/example/nodal_ledger/nodalledger/csv/DistinctFields" "count" "I" (.int (2 : Int32)) ∧ Arf Z h at_ kt .int 1024 (own_upd ft ix.toNatClampNeg (.int (2 : Int32))) ∧ Arf Z h ah kh .int 512 (own_upd fh (1 : Int32).toNatClampNeg (.int hs)) ∧ Arf Z h as_ ks .int 512 (own_upd fs (1 : Int32).toNatClampNeg (.int i1)) ∧ Arf Z h ae ke .int 512 (own_upd fe (1 : Int32).toNatClampNeg (.int i2))
set_option maxRecDepth 65536 in
set_option maxHeartbeats 40000000 in
theorem rm4 (l : Launch) (Z : State) (a0 : Array Value) (hw : ∀ d ∈ tables_1, d.before a0 Z = true) (ws : List Jvm.Cond) (a1 : Addr) (i1 i2 hs ix : Int32) (at_ ah as_ ae av ar ab : Addr) (kt kh ks ke : ClassId) (ft fh fs fe : Nat → Value) (h0 : Heap) (n0 : Nat) (Z0 : n0 ≤ h0.size) (E_a1 : Exa Z h0 a1 "com/example/nodal_ledger/nodalledger/csv/DistinctFields") (F_table_a1 : Fld Z h0 a1 "com/example/nodal_ledger/nodalledger/csv/DistinctFields" "table" "[I" (.ref at_)) (F_hashes_a1 : Fld Z h0 a1 "com/example/nodal_ledger/nodalledger/csv/DistinctFields" "hashes" "[I" (.ref ah)) (F_starts_a1 : Fld Z h0 a1 "com/example/nodal_ledger/nodalledger/csv/DistinctFields" "starts" "[I" (.ref as_)) (F_ends_a1 : Fld Z h0 a1 "com/example/nodal_ledger/nodalledger/csv/DistinctFields" "ends" "[I" (.ref ae)) (F_values_a1 : Fld Z h0 a1 "com/example/nodal_ledger/nodalledger/csv/DistinctFields" "values" "[Ljava/lang/Object;" (.ref av)) (F_readings_a1 : Fld Z h0 a1 "com/example/nodal_ledger/nodalledger/csv/DistinctFields" "readings" "[Ljava/lang/Object;" (.ref ar)) (F_bytes_a1 : Fld Z h0 a1 "com/example/nodal_ledger/nodalledger/csv/DistinctFields" "bytes" "[B" (.ref ab)) (F_count_a1 : Fld Z h0 a1 "com/example/nodal_ledger/nodalledger/csv/DistinctFields" "count" "I" (.int (1 : Int32))) (g_a1 : n0 ≤ a1) (A_at_ : Arf Z h0 at_ kt .int 1024 ft) (g_at_ : n0 ≤ at_) (A_ah : Arf Z h0 ah kh .int 512 fh) (g_ah : n0 ≤ ah) (A_as_ : Arf Z h0 as_ ks .int 512 fs) (g_as_ : n0 ≤ as_) (A_ae : Arf Z h0 ae ke .int 512 fe) (g_ae : n0 ≤ ae) (lc0 : Nat.succ ab ≤ a1) (lc1 : Nat.succ a1 ≤ at_) (lc2 : Nat.succ at_ ≤ ah) (lc3 : Nat.succ ah ≤ as_) (lc4 : Nat.succ as_ ≤ ae) (lc5 : Nat.succ ae ≤ av) (lc6 : Nat.succ av ≤ ar) (hix : ¬ ix < 0 ∧ ix < 1024) :
    OMet l Z (⟨"com/example/nodal_ledger/nodalledger/csv/DistinctFields", "added", "(IIII)I"⟩ : MethodName) prog_9_method_4_code 6 (some .int) ws ({ frames := 0, cells := 0, slots := 0, locals := 0 } : Room) #[(.ref a1), (.int i1), (.int i2), (.int hs), (.int ix)] h0 (own_Q_rm4 Z a1 i1 i2 hs ix at_ ah as_ ae av ar ab kt kh ks ke ft fh fs fe h0 n0) := by
  refine MetFree.of_bodySF (plainFor_of_name own_pn0) hisR ?_
  intro p e s m args below meth c s₁ Bd hml0 hP hK
  obtain ⟨rfl, hZ, hh⟩ := hP
  have hx := Bd.exec
  have hby := Bd.bytes
  have hml : c.maxLocals = 6 := hml0
  have hown : s.vm.findClass "com/example/nodal_ledger/nodalledger/csv/DistinctFields" = some m.cls := findClass_of_methodNamed Bd.named
  have hnm := (name_of_methodNamed Bd.named Bd.method).1
  have hlk : meth.locks = false := Bd.notSynchronized
  have X0 : Stand p l e ({ frames := 0, cells := 0, slots := 0, locals := 0 } : Room) s m #[(.ref a1), (.int i1), (.int i2), (.int hs), (.int ix)] below meth c s₁ [] 0 0 := Stand.of_body Bd
  have e0 : s₁.heap = h0 := by rw [← hh, Bd.state]; rfl
  have N0 := Fr.nil n0
  refine OGo.enter (P := OPost s (own_Q_rm4 Z a1 i1 i2 hs ix at_ ah as_ ae av ar ab kt kh ks ke ft fh fs fe h0 n0) 0 0) (own_ef_rm4 m a1 i1 i2 hs ix) ?_
  show OGo p.tables e below _ (s₁.setTop (mkF m 0 #[.val (.ref a1), .val (.int i1), .val (.int i2), .val (.int hs), .val (.int ix), .unset] []))
  refine OGo.st (fun _ k_ => XS.iconst X0.here hx rfl (hb hby own_d_prog_9_method_4_code_0) k_) ?_
  show OGo p.tables e below _ (s₁.setTop (mkF m 1 #[.val (.ref a1), .val (.int i1), .val (.int i2), .val (.int hs), .val (.int ix), .unset] [(.int (-1 : Int32))]))
  refine OGo.st (fun _ k_ => XS.istore X0.here hx rfl (hb hby own_d_prog_9_method_4_code_1) rfl (l' := #[.val (.ref a1), .val (.int i1), .val (.int i2), .val (.int hs), .val (.int ix), .val (.int (-1 : Int32))]) rfl k_) ?_
  show OGo p.tables e below _ (s₁.setTop (mkF m 3 #[.val (.ref a1), .val (.int i1), .val (.int i2), .val (.int hs), .val (.int ix), .val (.int (-1 : Int32))] []))
  refine OGo.st (fun _ k_ => XS.aloadN X0.here hx rfl (hb hby own_d_prog_9_method_4_code_3) rfl rfl k_) ?_
  show OGo p.tables e below _ (s₁.setTop (mkF m 4 #[.val (.ref a1), .val (.int i1), .val (.int i2), .val (.int hs), .val (.int ix), .val (.int (-1 : Int32))] [(.ref a1)]))
  obtain ⟨T1, X1, ez1, st1⟩ := getF X0 hx hZ hown (host := "") (Or.inl (hw _ (List.mem_of_getElem? (i := 47) rfl))) Via.refl e0 F_count_a1 (g := (mkF m 4 #[.val (.ref a1), .val (.int i1), .val (.int i2), .val (.int hs), .val (.int ix), .val (.int (-1 : Int32))] [(.ref a1)])) rfl rfl (hb hby own_d_prog_9_method_4_code_4)
  refine OGo.st st1 ?_
  show OGo p.tables e below _ (T1.setTop (mkF m 7 #[.val (.ref a1), .val (.int i1), .val (.int i2), .val (.int hs), .val (.int ix), .val (.int (-1 : Int32))] [(.int (1 : Int32))]))
  refine OGo.st (fun _ k_ => X1.ldcI hx hown (mvT hZ (hw _ (List.mem_of_getElem? (i := 49) rfl))) rfl (hb hby own_d_prog_9_method_4_code_7) k_) ?_
  show OGo p.tables e below _ (T1.setTop (mkF m 9 #[.val (.ref a1), .val (.int i1), .val (.int i2), .val (.int hs), .val (.int ix), .val (.int (-1 : Int32))] [(.int (65536 : Int32)), (.int (1 : Int32))]))
  refine OGo.st (fun _ k_ => XS.icmpNo X1.here hx rfl (hb hby own_d_prog_9_method_4_code_9) rfl (XT.ii_ge_f (by decide)) k_) ?_
  show OGo p.tables e below _ (T1.setTop (mkF m 12 #[.val (.ref a1), .val (.int i1), .val (.int i2), .val (.int hs), .val (.int ix), .val (.int (-1 : Int32))] []))
  refine OGo.st (fun _ k_ => XS.aloadN X1.here hx rfl (hb hby own_d_prog_9_method_4_code_12) rfl rfl k_) ?_
  show OGo p.tables e below _ (T1.setTop (mkF m 13 #[.val (.ref a1), .val (.int i1), .val (.int i2), .val (.int hs), .val (.int ix), .val (.int (-1 : Int32))] [(.ref a1)]))
  refine OGo.st (fun _ k_ => XS.dup X1.here hx rfl (hb hby own_d_prog_9_method_4_code_13) rfl rfl k_) ?_
  show OGo p.tables e below _ (T1.setTop (mkF m 14 #[.val (.ref a1), .val (.int i1), .val (.int i2), .val (.int hs), .val (.int ix), .val (.int (-1 : Int32))] [(.ref a1), (.ref a1)]))
  obtain ⟨T2, X2, ez2, st2⟩ := getF X1 hx hZ hown (host := "") (Or.inl (hw _ (List.mem_of_getElem? (i := 47) rfl))) Via.refl ez1 F_count_a1 (g := (mkF m 14 #[.val (.ref a1), .val (.int i1), .val (.int i2), .val (.int hs), .val (.int ix), .val (.int (-1 : Int32))] [(.ref a1), (.ref a1)])) rfl rfl (hb hby own_d_prog_9_method_4_code_14)
  refine OGo.st st2 ?_
  show OGo p.tables e below _ (T2.setTop (mkF m 17 #[.val (.ref a1), .val (.int i1), .val (.int i2), .val (.int hs), .val (.int ix), .val (.int (-1 : Int32))] [(.int (1 : Int32)), (.ref a1)]))
  refine OGo.st (fun _ k_ => XS.dupX1 X2.here hx rfl (hb hby own_d_prog_9_method_4_code_17) rfl rfl rfl k_) ?_
  show OGo p.tables e below _ (T2.setTop (mkF m 18 #[.val (.ref a1), .val (.int i1), .val (.int i2), .val (.int hs), .val (.int ix), .val (.int (-1 : Int32))] [(.int (1 : Int32)), (.ref a1), (.int (1 : Int32))]))
  refine OGo.st (fun _ k_ => XS.iconst X2.here hx rfl (hb hby own_d_prog_9_method_4_code_18) k_) ?_
  show OGo p.tables e below _ (T2.setTop (mkF m 19 #[.val (.ref a1), .val (.int i1), .val (.int i2), .val (.int hs), .val (.int ix), .val (.int (-1 : Int32))] [(.int (1 : Int32)), (.int (1 : Int32)), (.ref a1), (.int (1 : Int32))]))
  refine OGo.st (fun _ k_ => XS.iadd X2.here hx rfl (hb hby own_d_prog_9_method_4_code_19) rfl k_) ?_
  show OGo p.tables e below _ (T2.setTop (mkF m 20 #[.val (.ref a1), .val (.int i1), .val (.int i2), .val (.int hs), .val (.int ix), .val (.int (-1 : Int32))] [(.int (2 : Int32)), (.ref a1), (.int (1 : Int32))]))
  obtain ⟨T3, hz3, X3, ez3, W3, st3⟩ := putF X2 hx hZ hown (host := "") (Or.inl (hw _ (List.mem_of_getElem? (i := 47) rfl))) Via.refl ez2 F_count_a1 E_a1 (Or.inl (hw _ (List.mem_of_getElem? (i := 48) rfl))) (hw _ (List.mem_of_getElem? (i := 2) rfl)) (ty := .int) (by decide) rfl rfl (g := (mkF m 20 #[.val (.ref a1), .val (.int i1), .val (.int i2), .val (.int hs), .val (.int ix), .val (.int (-1 : Int32))] [(.int (2 : Int32)), (.ref a1), (.int (1 : Int32))])) rfl rfl (hb hby own_d_prog_9_method_4_code_20)
  have Fw3 : Fld Z hz3 a1 "com/example/nodal_ledger/nodalledger/csv/DistinctFields" "count" "I" (.int (2 : Int32)) := F_count_a1.same W3
  have Ex_4 := E_a1.wr W3
  have F_5 := F_table_a1.other W3 (Or.inr (slot_ne (Or.inl (hw _ (List.mem_of_getElem? (i := 12) rfl))) (Or.inl (hw _ (List.mem_of_getElem? (i := 48) rfl))) (by decide) (t := (.array .int)) (t' := .int) (by decide) (by decide)))
  have F_6 := F_hashes_a1.other W3 (Or.inr (slot_ne (Or.inl (hw _ (List.mem_of_getElem? (i := 14) rfl))) (Or.inl (hw _ (List.mem_of_getElem? (i := 48) rfl))) (by decide) (t := (.array .int)) (t' := .int) (by decide) (by decide)))
  have F_7 := F_starts_a1.other W3 (Or.inr (slot_ne (Or.inl (hw _ (List.mem_of_getElem? (i := 16) rfl))) (Or.inl (hw _ (List.mem_of_getElem? (i := 48) rfl))) (by decide) (t := (.array .int)) (t' := .int) (by decide) (by decide)))
  have F_8 := F_ends_a1.other W3 (Or.inr (slot_ne (Or.inl (hw _ (List.mem_of_getElem? (i := 18) rfl))) (Or.inl (hw _ (List.mem_of_getElem? (i := 48) rfl))) (by decide) (t := (.array .int)) (t' := .int) (by decide) (by decide)))
  have F_9 := F_values_a1.other W3 (Or.inr (slot_ne (Or.inl (hw _ (List.mem_of_getElem? (i := 26) rfl))) (Or.inl (hw _ (List.mem_of_getElem? (i := 48) rfl))) (by decide) (t := (.array (.object "java/lang/Object"))) (t' := .int) (by decide) (by decide)))
  have F_10 := F_readings_a1.other W3 (Or.inr (slot_ne (Or.inl (hw _ (List.mem_of_getElem? (i := 28) rfl))) (Or.inl (hw _ (List.mem_of_getElem? (i := 48) rfl))) (by decide) (t := (.array (.object "java/lang/Object"))) (t' := .int) (by decide) (by decide)))
  have F_11 := F_bytes_a1.other W3 (Or.inr (slot_ne (Or.inr (hw _ (List.mem_of_getElem? (i := 30) rfl))) (Or.inl (hw _ (List.mem_of_getElem? (i := 48) rfl))) (by decide) (t := (.array .byte)) (t' := .int) (by decide) (by decide)))
  have Af_12 := A_at_.other W3 (show @Ne Nat at_ a1 by omega)
  have Af_13 := A_ah.other W3 (show @Ne Nat ah a1 by omega)
  have Af_14 := A_as_.other W3 (show @Ne Nat as_ a1 by omega)
  have Af_15 := A_ae.other W3 (show @Ne Nat ae a1 by omega)
  have N3 := Fr.snoc X3 N0 g_a1
  have K_16 : Keep h0 hz3 [a1, at_, ah, as_, ae] := (Keep.refl h0 [a1, at_, ah, as_, ae]).wr W3 (Or.inl (List.mem_of_getElem? (i := 0) rfl))
  refine OGo.st st3 ?_
  show OGo p.tables e below _ (T3.setTop (mkF m 23 #[.val (.ref a1), .val (.int i1), .val (.int i2), .val (.int hs), .val (.int ix), .val (.int (-1 : Int32))] [(.int (1 : Int32))]))
  refine OGo.st (fun _ k_ => XS.istore X3.here hx rfl (hb hby own_d_prog_9_method_4_code_23) rfl (l' := #[.val (.ref a1), .val (.int i1), .val (.int i2), .val (.int hs), .val (.int ix), .val (.int (1 : Int32))]) rfl k_) ?_
  show OGo p.tables e below _ (T3.setTop (mkF m 25 #[.val (.ref a1), .val (.int i1), .val (.int i2), .val (.int hs), .val (.int ix), .val (.int (1 : Int32))] []))
  refine OGo.st (fun _ k_ => XS.iload X3.here hx rfl (hb hby own_d_prog_9_method_4_code_25) rfl k_) ?_
  show OGo p.tables e below _ (T3.setTop (mkF m 27 #[.val (.ref a1), .val (.int i1), .val (.int i2), .val (.int hs), .val (.int ix), .val (.int (1 : Int32))] [(.int (1 : Int32))]))
  refine OGo.st (fun _ k_ => XS.aloadN X3.here hx rfl (hb hby own_d_prog_9_method_4_code_27) rfl rfl k_) ?_
  show OGo p.tables e below _ (T3.setTop (mkF m 28 #[.val (.ref a1), .val (.int i1), .val (.int i2), .val (.int hs), .val (.int ix), .val (.int (1 : Int32))] [(.ref a1), (.int (1 : Int32))]))
  obtain ⟨T17, X17, ez17, st17⟩ := getF X3 hx hZ hown (host := "") (Or.inl (hw _ (List.mem_of_getElem? (i := 15) rfl))) Via.refl ez3 F_7 (g := (mkF m 28 #[.val (.ref a1), .val (.int i1), .val (.int i2), .val (.int hs), .val (.int ix), .val (.int (1 : Int32))] [(.ref a1), (.int (1 : Int32))])) rfl rfl (hb hby own_d_prog_9_method_4_code_28)
  refine OGo.st st17 ?_
  show OGo p.tables e below _ (T17.setTop (mkF m 31 #[.val (.ref a1), .val (.int i1), .val (.int i2), .val (.int hs), .val (.int ix), .val (.int (1 : Int32))] [(.ref as_), (.int (1 : Int32))]))
  have qz18 := own_alen X17 hx hZ ez17 Af_14 (g := (mkF m 31 #[.val (.ref a1), .val (.int i1), .val (.int i2), .val (.int hs), .val (.int ix), .val (.int (1 : Int32))] [(.ref as_), (.int (1 : Int32))])) rfl rfl (hb hby own_d_prog_9_method_4_code_31)
  refine OGo.st qz18 ?_
  show OGo p.tables e below _ (T17.setTop (mkF m 32 #[.val (.ref a1), .val (.int i1), .val (.int i2), .val (.int hs), .val (.int ix), .val (.int (1 : Int32))] [(.int (512 : Int32)), (.int (1 : Int32))]))
  refine OGo.st (fun _ k_ => XS.icmpYes X17.here hx rfl (pc0 := 32) (pc' := 39) rfl (hb hby own_d_prog_9_method_4_code_32) rfl (XT.ii_ne_t (by decide)) (by decide) (by decide) k_) ?_
  show OGo p.tables e below _ (T17.setTop (mkF m 39 #[.val (.ref a1), .val (.int i1), .val (.int i2), .val (.int hs), .val (.int ix), .val (.int (1 : Int32))] []))
  refine OGo.st (fun _ k_ => XS.aloadN X17.here hx rfl (hb hby own_d_prog_9_method_4_code_39) rfl rfl k_) ?_
  show OGo p.tables e below _ (T17.setTop (mkF m 40 #[.val (.ref a1), .val (.int i1), .val (.int i2), .val (.int hs), .val (.int ix), .val (.int (1 : Int32))] [(.ref a1)]))
  obtain ⟨T19, X19, ez19, st19⟩ := getF X17 hx hZ hown (host := "") (Or.inl (hw _ (List.mem_of_getElem? (i := 13) rfl))) Via.refl ez17 F_6 (g := (mkF m 40 #[.val (.ref a1), .val (.int i1), .val (.int i2), .val (.int hs), .val (.int ix), .val (.int (1 : Int32))] [(.ref a1)])) rfl rfl (hb hby own_d_prog_9_method_4_code_40)
  refine OGo.st st19 ?_
  show OGo p.tables e below _ (T19.setTop (mkF m 43 #[.val (.ref a1), .val (.int i1), .val (.int i2), .val (.int hs), .val (.int ix), .val (.int (1 : Int32))] [(.ref ah)]))
  refine OGo.st (fun _ k_ => XS.iload X19.here hx rfl (hb hby own_d_prog_9_method_4_code_43) rfl k_) ?_
  show OGo p.tables e below _ (T19.setTop (mkF m 45 #[.val (.ref a1), .val (.int i1), .val (.int i2), .val (.int hs), .val (.int ix), .val (.int (1 : Int32))] [(.int (1 : Int32)), (.ref ah)]))
  refine OGo.st (fun _ k_ => XS.iloadN X19.here hx rfl (hb hby own_d_prog_9_method_4_code_45) rfl k_) ?_
  show OGo p.tables e below _ (T19.setTop (mkF m 46 #[.val (.ref a1), .val (.int i1), .val (.int i2), .val (.int hs), .val (.int ix), .val (.int (1 : Int32))] [(.int hs), (.int (1 : Int32)), (.ref ah)]))
  obtain ⟨T20, hz20, X20, ez20, W20, V20, st20⟩ := own_stI X19 hx hZ ez19 Af_13 (j := (1 : Int32)) (by decide)  (g := (mkF m 46 #[.val (.ref a1), .val (.int i1), .val (.int i2), .val (.int hs), .val (.int ix), .val (.int (1 : Int32))] [(.int hs), (.int (1 : Int32)), (.ref ah)])) rfl rfl (hb hby own_d_prog_9_method_4_code_46)
  have Ex_21 := Ex_4.wr W20
  have F_22 := F_5.other W20 (Or.inl (show @Ne Nat a1 ah by omega))
  have F_23 := F_6.other W20 (Or.inl (show @Ne Nat a1 ah by omega))
  have F_24 := F_7.other W20 (Or.inl (show @Ne Nat a1 ah by omega))
  have F_25 := F_8.other W20 (Or.inl (show @Ne Nat a1 ah by omega))
  have F_26 := F_9.other W20 (Or.inl (show @Ne Nat a1 ah by omega))
  have F_27 := F_10.other W20 (Or.inl (show @Ne Nat a1 ah by omega))
  have F_28 := F_11.other W20 (Or.inl (show @Ne Nat a1 ah by omega))
  have Af_29 := Af_12.other W20 (show @Ne Nat at_ ah by omega)
  have Af_30 := Af_14.other W20 (show @Ne Nat as_ ah by omega)
  have Af_31 := Af_15.other W20 (show @Ne Nat ae ah by omega)
  have F_32 := Fw3.other W20 (Or.inl (show @Ne Nat a1 ah by omega))
  have N20 := Fr.snoc X20 N3 g_ah
  have K_33 : Keep h0 hz20 [a1, at_, ah, as_, ae] := K_16.wr W20 (Or.inl (List.mem_of_getElem? (i := 2) rfl))
  refine OGo.st st20 ?_
  show OGo p.tables e below _ (T20.setTop (mkF m 47 #[.val (.ref a1), .val (.int i1), .val (.int i2), .val (.int hs), .val (.int ix), .val (.int (1 : Int32))] []))
  refine OGo.st (fun _ k_ => XS.aloadN X20.here hx rfl (hb hby own_d_prog_9_method_4_code_47) rfl rfl k_) ?_
  show OGo p.tables e below _ (T20.setTop (mkF m 48 #[.val (.ref a1), .val (.int i1), .val (.int i2), .val (.int hs), .val (.int ix), .val (.int (1 : Int32))] [(.ref a1)]))
  obtain ⟨T34, X34, ez34, st34⟩ := getF X20 hx hZ hown (host := "") (Or.inl (hw _ (List.mem_of_getElem? (i := 15) rfl))) Via.refl ez20 F_24 (g := (mkF m 48 #[.val (.ref a1), .val (.int i1), .val (.int i2), .val (.int hs), .val (.int ix), .val (.int (1 : Int32))] [(.ref a1)])) rfl rfl (hb hby own_d_prog_9_method_4_code_48)
  refine OGo.st st34 ?_
  show OGo p.tables e below _ (T34.setTop (mkF m 51 #[.val (.ref a1), .val (.int i1), .val (.int i2), .val (.int hs), .val (.int ix), .val (.int (1 : Int32))] [(.ref as_)]))
  refine OGo.st (fun _ k_ => XS.iload X34.here hx rfl (hb hby own_d_prog_9_method_4_code_51) rfl k_) ?_
  show OGo p.tables e below _ (T34.setTop (mkF m 53 #[.val (.ref a1), .val (.int i1), .val (.int i2), .val (.int hs), .val (.int ix), .val (.int (1 : Int32))] [(.int (1 : Int32)), (.ref as_)]))
  refine OGo.st (fun _ k_ => XS.iloadN X34.here hx rfl (hb hby own_d_prog_9_method_4_code_53) rfl k_) ?_
  show OGo p.tables e below _ (T34.setTop (mkF m 54 #[.val (.ref a1), .val (.int i1), .val (.int i2), .val (.int hs), .val (.int ix), .val (.int (1 : Int32))] [(.int i1), (.int (1 : Int32)), (.ref as_)]))
  obtain ⟨T35, hz35, X35, ez35, W35, V35, st35⟩ := own_stI X34 hx hZ ez34 Af_30 (j := (1 : Int32)) (by decide)  (g := (mkF m 54 #[.val (.ref a1), .val (.int i1), .val (.int i2), .val (.int hs), .val (.int ix), .val (.int (1 : Int32))] [(.int i1), (.int (1 : Int32)), (.ref as_)])) rfl rfl (hb hby own_d_prog_9_method_4_code_54)
  have Ex_36 := Ex_21.wr W35
  have F_37 := F_22.other W35 (Or.inl (show @Ne Nat a1 as_ by omega))
  have F_38 := F_23.other W35 (Or.inl (show @Ne Nat a1 as_ by omega))
  have F_39 := F_24.other W35 (Or.inl (show @Ne Nat a1 as_ by omega))
  have F_40 := F_25.other W35 (Or.inl (show @Ne Nat a1 as_ by omega))
  have F_41 := F_26.other W35 (Or.inl (show @Ne Nat a1 as_ by omega))
  have F_42 := F_27.other W35 (Or.inl (show @Ne Nat a1 as_ by omega))
  have F_43 := F_28.other W35 (Or.inl (show @Ne Nat a1 as_ by omega))
  have Af_44 := Af_29.other W35 (show @Ne Nat at_ as_ by omega)
  have Af_45 := Af_31.other W35 (show @Ne Nat ae as_ by omega)
  have F_46 := F_32.other W35 (Or.inl (show @Ne Nat a1 as_ by omega))
  have Af_47 := V20.other W35 (show @Ne Nat ah as_ by omega)
  have N35 := Fr.snoc X35 N20 g_as_
  have K_48 : Keep h0 hz35 [a1, at_, ah, as_, ae] := K_33.wr W35 (Or.inl (List.mem_of_getElem? (i := 3) rfl))
  refine OGo.st st35 ?_
  show OGo p.tables e below _ (T35.setTop (mkF m 55 #[.val (.ref a1), .val (.int i1), .val (.int i2), .val (.int hs), .val (.int ix), .val (.int (1 : Int32))] []))
  refine OGo.st (fun _ k_ => XS.aloadN X35.here hx rfl (hb hby own_d_prog_9_method_4_code_55) rfl rfl k_) ?_
  show OGo p.tables e below _ (T35.setTop (mkF m 56 #[.val (.ref a1), .val (.int i1), .val (.int i2), .val (.int hs), .val (.int ix), .val (.int (1 : Int32))] [(.ref a1)]))
  obtain ⟨T49, X49, ez49, st49⟩ := getF X35 hx hZ hown (host := "") (Or.inl (hw _ (List.mem_of_getElem? (i := 17) rfl))) Via.refl ez35 F_40 (g := (mkF m 56 #[.val (.ref a1), .val (.int i1), .val (.int i2), .val (.int hs), .val (.int ix), .val (.int (1 : Int32))] [(.ref a1)])) rfl rfl (hb hby own_d_prog_9_method_4_code_56)
  refine OGo.st st49 ?_
  show OGo p.tables e below _ (T49.setTop (mkF m 59 #[.val (.ref a1), .val (.int i1), .val (.int i2), .val (.int hs), .val (.int ix), .val (.int (1 : Int32))] [(.ref ae)]))
  refine OGo.st (fun _ k_ => XS.iload X49.here hx rfl (hb hby own_d_prog_9_method_4_code_59) rfl k_) ?_
  show OGo p.tables e below _ (T49.setTop (mkF m 61 #[.val (.ref a1), .val (.int i1), .val (.int i2), .val (.int hs), .val (.int ix), .val (.int (1 : Int32))] [(.int (1 : Int32)), (.ref ae)]))
  refine OGo.st (fun _ k_ => XS.iloadN X49.here hx rfl (hb hby own_d_prog_9_method_4_code_61) rfl k_) ?_
  show OGo p.tables e below _ (T49.setTop (mkF m 62 #[.val (.ref a1), .val (.int i1), .val (.int i2), .val (.int hs), .val (.int ix), .val (.int (1 : Int32))] [(.int i2), (.int (1 : Int32)), (.ref ae)]))
  obtain ⟨T50, hz50, X50, ez50, W50, V50, st50⟩ := own_stI X49 hx hZ ez49 Af_45 (j := (1 : Int32)) (by decide)  (g := (mkF m 62 #[.val (.ref a1), .val (.int i1), .val (.int i2), .val (.int hs), .val (.int ix), .val (.int (1 : Int32))] [(.int i2), (.int (1 : Int32)), (.ref ae)])) rfl rfl (hb hby own_d_prog_9_method_4_code_62)
  have Ex_51 := Ex_36.wr W50
  have F_52 := F_37.other W50 (Or.inl (show @Ne Nat a1 ae by omega))
  have F_53 := F_38.other W50 (Or.inl (show @Ne Nat a1 ae by omega))
  have F_54 := F_39.other W50 (Or.inl (show @Ne Nat a1 ae by omega))
  have F_55 := F_40.other W50 (Or.inl (show @Ne Nat a1 ae by omega))
  have F_56 := F_41.other W50 (Or.inl (show @Ne Nat a1 ae by omega))
  have F_57 := F_42.other W50 (Or.inl (show @Ne Nat a1 ae by omega))
  have F_58 := F_43.other W50 (Or.inl (show @Ne Nat a1 ae by omega))
  have Af_59 := Af_44.other W50 (show @Ne Nat at_ ae by omega)
  have F_60 := F_46.other W50 (Or.inl (show @Ne Nat a1 ae by omega))
  have Af_61 := Af_47.other W50 (show @Ne Nat ah ae by omega)
  have Af_62 := V35.other W50 (show @Ne Nat as_ ae by omega)
  have N50 := Fr.snoc X50 N35 g_ae
  have K_63 : Keep h0 hz50 [a1, at_, ah, as_, ae] := K_48.wr W50 (Or.inl (List.mem_of_getElem? (i := 4) rfl))
  refine OGo.st st50 ?_
  show OGo p.tables e below _ (T50.setTop (mkF m 63 #[.val (.ref a1), .val (.int i1), .val (.int i2), .val (.int hs), .val (.int ix), .val (.int (1 : Int32))] []))
  refine OGo.st (fun _ k_ => XS.aloadN X50.here hx rfl (hb hby own_d_prog_9_method_4_code_63) rfl rfl k_) ?_
  show OGo p.tables e below _ (T50.setTop (mkF m 64 #[.val (.ref a1), .val (.int i1), .val (.int i2), .val (.int hs), .val (.int ix), .val (.int (1 : Int32))] [(.ref a1)]))
  obtain ⟨T64, X64, ez64, st64⟩ := getF X50 hx hZ hown (host := "") (Or.inl (hw _ (List.mem_of_getElem? (i := 11) rfl))) Via.refl ez50 F_52 (g := (mkF m 64 #[.val (.ref a1), .val (.int i1), .val (.int i2), .val (.int hs), .val (.int ix), .val (.int (1 : Int32))] [(.ref a1)])) rfl rfl (hb hby own_d_prog_9_method_4_code_64)
  refine OGo.st st64 ?_
  show OGo p.tables e below _ (T64.setTop (mkF m 67 #[.val (.ref a1), .val (.int i1), .val (.int i2), .val (.int hs), .val (.int ix), .val (.int (1 : Int32))] [(.ref at_)]))
  refine OGo.st (fun _ k_ => XS.iload X64.here hx rfl (hb hby own_d_prog_9_method_4_code_67) rfl k_) ?_
  show OGo p.tables e below _ (T64.setTop (mkF m 69 #[.val (.ref a1), .val (.int i1), .val (.int i2), .val (.int hs), .val (.int ix), .val (.int (1 : Int32))] [(.int ix), (.ref at_)]))
  refine OGo.st (fun _ k_ => XS.iload X64.here hx rfl (hb hby own_d_prog_9_method_4_code_69) rfl k_) ?_
  show OGo p.tables e below _ (T64.setTop (mkF m 71 #[.val (.ref a1), .val (.int i1), .val (.int i2), .val (.int hs), .val (.int ix), .val (.int (1 : Int32))] [(.int (1 : Int32)), (.int ix), (.ref at_)]))
  refine OGo.st (fun _ k_ => XS.iconst X64.here hx rfl (hb hby own_d_prog_9_method_4_code_71) k_) ?_
  show OGo p.tables e below _ (T64.setTop (mkF m 72 #[.val (.ref a1), .val (.int i1), .val (.int i2), .val (.int hs), .val (.int ix), .val (.int (1 : Int32))] [(.int (1 : Int32)), (.int (1 : Int32)), (.int ix), (.ref at_)]))
  refine OGo.st (fun _ k_ => XS.iadd X64.here hx rfl (hb hby own_d_prog_9_method_4_code_72) rfl k_) ?_
  show OGo p.tables e below _ (T64.setTop (mkF m 73 #[.val (.ref a1), .val (.int i1), .val (.int i2), .val (.int hs), .val (.int ix), .val (.int (1 : Int32))] [(.int (2 : Int32)), (.int ix), (.ref at_)]))
  obtain ⟨T65, hz65, X65, ez65, W65, V65, st65⟩ := own_stI X64 hx hZ ez64 Af_59 (j := ix) hix  (g := (mkF m 73 #[.val (.ref a1), .val (.int i1), .val (.int i2), .val (.int hs), .val (.int ix), .val (.int (1 : Int32))] [(.int (2 : Int32)), (.int ix), (.ref at_)])) rfl rfl (hb hby own_d_prog_9_method_4_code_73)
  have Ex_66 := Ex_51.wr W65
  have F_67 := F_52.other W65 (Or.inl (show @Ne Nat a1 at_ by omega))
  have F_68 := F_53.other W65 (Or.inl (show @Ne Nat a1 at_ by omega))
  have F_69 := F_54.other W65 (Or.inl (show @Ne Nat a1 at_ by omega))
  have F_70 := F_55.other W65 (Or.inl (show @Ne Nat a1 at_ by omega))
  have F_71 := F_56.other W65 (Or.inl (show @Ne Nat a1 at_ by omega))
  have F_72 := F_57.other W65 (Or.inl (show @Ne Nat a1 at_ by omega))
  have F_73 := F_58.other W65 (Or.inl (show @Ne Nat a1 at_ by omega))
  have F_74 := F_60.other W65 (Or.inl (show @Ne Nat a1 at_ by omega))
  have Af_75 := Af_61.other W65 (show @Ne Nat ah at_ by omega)
  have Af_76 := Af_62.other W65 (show @Ne Nat as_ at_ by omega)
  have Af_77 := V50.other W65 (show @Ne Nat ae at_ by omega)
  have N65 := Fr.snoc X65 N50 g_at_
  have K_78 : Keep h0 hz65 [a1, at_, ah, as_, ae] := K_63.wr W65 (Or.inl (List.mem_of_getElem? (i := 1) rfl))
  refine OGo.st st65 ?_
  show OGo p.tables e below _ (T65.setTop (mkF m 74 #[.val (.ref a1), .val (.int i1), .val (.int i2), .val (.int hs), .val (.int ix), .val (.int (1 : Int32))] []))
  refine OGo.st (fun _ k_ => XS.iconst X65.here hx rfl (hb hby own_d_prog_9_method_4_code_74) k_) ?_
  show OGo p.tables e below _ (T65.setTop (mkF m 75 #[.val (.ref a1), .val (.int i1), .val (.int i2), .val (.int hs), .val (.int ix), .val (.int (1 : Int32))] [(.int (2 : Int32))]))
  refine OGo.st (fun _ k_ => XS.aloadN X65.here hx rfl (hb hby own_d_prog_9_method_4_code_75) rfl rfl k_) ?_
  show OGo p.tables e below _ (T65.setTop (mkF m 76 #[.val (.ref a1), .val (.int i1), .val (.int i2), .val (.int hs), .val (.int ix), .val (.int (1 : Int32))] [(.ref a1), (.int (2 : Int32))]))
  obtain ⟨T79, X79, ez79, st79⟩ := getF X65 hx hZ hown (host := "") (Or.inl (hw _ (List.mem_of_getElem? (i := 47) rfl))) Via.refl ez65 F_74 (g := (mkF m 76 #[.val (.ref a1), .val (.int i1), .val (.int i2), .val (.int hs), .val (.int ix), .val (.int (1 : Int32))] [(.ref a1), (.int (2 : Int32))])) rfl rfl (hb hby own_d_prog_9_method_4_code_76)
  refine OGo.st st79 ?_
  show OGo p.tables e below _ (T79.setTop (mkF m 79 #[.val (.ref a1), .val (.int i1), .val (.int i2), .val (.int hs), .val (.int ix), .val (.int (1 : Int32))] [(.int (2 : Int32)), (.int (2 : Int32))]))
  refine OGo.st (fun _ k_ => XS.imul X79.here hx rfl (hb hby own_d_prog_9_method_4_code_79) rfl k_) ?_
  show OGo p.tables e below _ (T79.setTop (mkF m 80 #[.val (.ref a1), .val (.int i1), .val (.int i2), .val (.int hs), .val (.int ix), .val (.int (1 : Int32))] [(.int (4 : Int32))]))
  refine OGo.st (fun _ k_ => XS.aloadN X79.here hx rfl (hb hby own_d_prog_9_method_4_code_80) rfl rfl k_) ?_
  show OGo p.tables e below _ (T79.setTop (mkF m 81 #[.val (.ref a1), .val (.int i1), .val (.int i2), .val (.int hs), .val (.int ix), .val (.int (1 : Int32))] [(.ref a1), (.int (4 : Int32))]))
  obtain ⟨T80, X80, ez80, st80⟩ := getF X79 hx hZ hown (host := "") (Or.inl (hw _ (List.mem_of_getElem? (i := 11) rfl))) Via.refl ez79 F_67 (g := (mkF m 81 #[.val (.ref a1), .val (.int i1), .val (.int i2), .val (.int hs), .val (.int ix), .val (.int (1 : Int32))] [(.ref a1), (.int (4 : Int32))])) rfl rfl (hb hby own_d_prog_9_method_4_code_81)
  refine OGo.st st80 ?_
  show OGo p.tables e below _ (T80.setTop (mkF m 84 #[.val (.ref a1), .val (.int i1), .val (.int i2), .val (.int hs), .val (.int ix), .val (.int (1 : Int32))] [(.ref at_), (.int (4 : Int32))]))
  have qz81 := own_alen X80 hx hZ ez80 V65 (g := (mkF m 84 #[.val (.ref a1), .val (.int i1), .val (.int i2), .val (.int hs), .val (.int ix), .val (.int (1 : Int32))] [(.ref at_), (.int (4 : Int32))])) rfl rfl (hb hby own_d_prog_9_method_4_code_84)
  refine OGo.st qz81 ?_
  show OGo p.tables e below _ (T80.setTop (mkF m 85 #[.val (.ref a1), .val (.int i1), .val (.int i2), .val (.int hs), .val (.int ix), .val (.int (1 : Int32))] [(.int (1024 : Int32)), (.int (4 : Int32))]))
  refine OGo.st (fun _ k_ => XS.icmpYes X80.here hx rfl (pc0 := 85) (pc' := 92) rfl (hb hby own_d_prog_9_method_4_code_85) rfl (XT.ii_le_t (by decide)) (by decide) (by decide) k_) ?_
  show OGo p.tables e below _ (T80.setTop (mkF m 92 #[.val (.ref a1), .val (.int i1), .val (.int i2), .val (.int hs), .val (.int ix), .val (.int (1 : Int32))] []))
  refine OGo.st (fun _ k_ => XS.iload X80.here hx rfl (hb hby own_d_prog_9_method_4_code_92) rfl k_) ?_
  show OGo p.tables e below _ (T80.setTop (mkF m 94 #[.val (.ref a1), .val (.int i1), .val (.int i2), .val (.int hs), .val (.int ix), .val (.int (1 : Int32))] [(.int (1 : Int32))]))
  refine OGo.fin X80 (v := some (.int (1 : Int32))) (fun h => by rw [Bd.returns] at h; cases h) hlk (fun fs hr => X80.ireturnOut hx Bd.returns rfl (Or.inl rfl) (hb hby own_d_prog_9_method_4_code_94) hr) ?_ (by decide) (by decide)
  show own_Q_rm4 Z a1 i1 i2 hs ix at_ ah as_ ae av ar ab kt kh ks ke ft fh fs fe h0 n0 _ T80.heap _
  rw [ez80]
  exact ⟨rfl, N65, K_78, F_67, F_68, F_69, F_70, F_71, F_72, F_73, F_74, V65, Af_75, Af_76, Af_77⟩
theorem own_d_jdk_65_method_30_code_0 : decode jdk_65_method_30_code 0 = .ok (.iload_n 1, 1) := by decide +kernel
theorem own_d_jdk_65_method_30_code_1 : decode jdk_65_method_30_code 1 = .ok (.iload_n 2, 1) := by decide +kernel
theorem own_d_jdk_65_method_30_code_2 : decode jdk_65_method_30_code 2 = .ok (.if_icmp .le 44, 3) := by decide +kernel
theorem own_d_jdk_65_method_30_code_46 : decode jdk_65_method_30_code 46 = .ok (.iload_n 1, 1) := by decide +kernel
theorem own_d_jdk_65_method_30_code_47 : decode jdk_65_method_30_code 47 = .ok (.ifCond .ge 12, 3) := by decide +kernel
theorem own_d_jdk_65_method_30_code_59 : decode jdk_65_method_30_code 59 = .ok (.iload_n 2, 1) := by decide +kernel
theorem own_d_jdk_65_method_30_code_60 : decode jdk_65_method_30_code 60 = .ok (.iload_n 0, 1) := by decide +kernel
theorem own_d_jdk_65_method_30_code_61 : decode jdk_65_method_30_code 61 = .ok (.if_icmp .le 12, 3) := by decide +kernel
theorem own_d_jdk_65_method_30_code_73 : decode jdk_65_method_30_code 73 = .ok (.return_, 1) := by decide +kernel
theorem own_pn1 : plainName "java/util/Arrays" = true := by first | (simp [plainName, overriddenIn]; done) | decide +kernel
theorem own_ef_rm5 (m : MethodId) (x0 : Int32) (x1 : Int32) (x2 : Int32) : entryFrame m #[(.int x0), (.int x1), (.int x2)] 3 = mkF m 0 #[.val (.int x0), .val (.int x1), .val (.int x2)] [] := by first | (simp [entryFrame, mkF, argsToLocals, Value.category]; done) | rfl
def own_Q_rm5 (Z : State) (p2 p3 : Int32) (h0 : Heap) (n0 : Nat) (v : Option Value) (h : Heap) (L : List Loc) : Prop := v = none ∧ Fr n0 L ∧ h = h0
set_option maxRecDepth 65536 in
set_option maxHeartbeats 40000000 in
theorem rm5 (l : Launch) (Z : State) (a0 : Array Value) (hw : ∀ d ∈ tables_1, d.before a0 Z = true) (ws : List Jvm.Cond) (p2 p3 : Int32) (h0 : Heap) (n0 : Nat) (Z0 : n0 ≤ h0.size) (h1 : ¬ p3 < p2) (h2 : ¬ p2 < 0) (h3 : ¬ (2 : Int32) < p3) :
    OMet l Z (⟨"java/util/Arrays", "rangeCheck", "(III)V"⟩ : MethodName) jdk_65_method_30_code 3 none ws ({ frames := 0, cells := 0, slots := 0, locals := 0 } : Room) #[(.int (2 : Int32)), (.int p2), (.int p3)] h0 (own_Q_rm5 Z p2 p3 h0 n0) := by
  refine MetFree.of_bodySF (plainFor_of_name own_pn1) hisR ?_
  intro p e s m args below meth c s₁ Bd hml0 hP hK
  obtain ⟨rfl, hZ, hh⟩ := hP
  have hx := Bd.exec
  have hby := Bd.bytes
  have hml : c.maxLocals = 3 := hml0
  have hown : s.vm.findClass "java/util/Arrays" = some m.cls := findClass_of_methodNamed Bd.named
  have hnm := (name_of_methodNamed Bd.named Bd.method).1
  have hlk : meth.locks = false := Bd.notSynchronized
  have X0 : Stand p l e ({ frames := 0, cells := 0, slots := 0, locals := 0 } : Room) s m #[(.int (2 : Int32)), (.int p2), (.int p3)] below meth c s₁ [] 0 0 := Stand.of_body Bd
  have e0 : s₁.heap = h0 := by rw [← hh, Bd.state]; rfl
  have N0 := Fr.nil n0
  refine OGo.enter (P := OPost s (own_Q_rm5 Z p2 p3 h0 n0) 0 0) (own_ef_rm5 m (2 : Int32) p2 p3) ?_
  show OGo p.tables e below _ (s₁.setTop (mkF m 0 #[.val (.int (2 : Int32)), .val (.int p2), .val (.int p3)] []))
  refine OGo.st (fun _ k_ => XS.iloadN X0.here hx rfl (hb hby own_d_jdk_65_method_30_code_0) rfl k_) ?_
  show OGo p.tables e below _ (s₁.setTop (mkF m 1 #[.val (.int (2 : Int32)), .val (.int p2), .val (.int p3)] [(.int p2)]))
  refine OGo.st (fun _ k_ => XS.iloadN X0.here hx rfl (hb hby own_d_jdk_65_method_30_code_1) rfl k_) ?_
  show OGo p.tables e below _ (s₁.setTop (mkF m 2 #[.val (.int (2 : Int32)), .val (.int p2), .val (.int p3)] [(.int p3), (.int p2)]))
  refine OGo.st (fun _ k_ => XS.icmpYes X0.here hx rfl (pc0 := 2) (pc' := 46) rfl (hb hby own_d_jdk_65_method_30_code_2) rfl (XT.ii_le_t h1) (by decide) (by decide) k_) ?_
  show OGo p.tables e below _ (s₁.setTop (mkF m 46 #[.val (.int (2 : Int32)), .val (.int p2), .val (.int p3)] []))
  refine OGo.st (fun _ k_ => XS.iloadN X0.here hx rfl (hb hby own_d_jdk_65_method_30_code_46) rfl k_) ?_
  show OGo p.tables e below _ (s₁.setTop (mkF m 47 #[.val (.int (2 : Int32)), .val (.int p2), .val (.int p3)] [(.int p2)]))
  refine OGo.st (fun _ k_ => XS.ifYes X0.here hx rfl (pc0 := 47) (pc' := 59) rfl (hb hby own_d_jdk_65_method_30_code_47) rfl (XT.i0_ge_t h2) (by decide) (by decide) k_) ?_
  show OGo p.tables e below _ (s₁.setTop (mkF m 59 #[.val (.int (2 : Int32)), .val (.int p2), .val (.int p3)] []))
  refine OGo.st (fun _ k_ => XS.iloadN X0.here hx rfl (hb hby own_d_jdk_65_method_30_code_59) rfl k_) ?_
  show OGo p.tables e below _ (s₁.setTop (mkF m 60 #[.val (.int (2 : Int32)), .val (.int p2), .val (.int p3)] [(.int p3)]))
  refine OGo.st (fun _ k_ => XS.iloadN X0.here hx rfl (hb hby own_d_jdk_65_method_30_code_60) rfl k_) ?_
  show OGo p.tables e below _ (s₁.setTop (mkF m 61 #[.val (.int (2 : Int32)), .val (.int p2), .val (.int p3)] [(.int (2 : Int32)), (.int p3)]))
  refine OGo.st (fun _ k_ => XS.icmpYes X0.here hx rfl (pc0 := 61) (pc' := 73) rfl (hb hby own_d_jdk_65_method_30_code_61) rfl (XT.ii_le_t h3) (by decide) (by decide) k_) ?_
  show OGo p.tables e below _ (s₁.setTop (mkF m 73 #[.val (.int (2 : Int32)), .val (.int p2), .val (.int p3)] []))
  refine OGo.fin X0 (v := none) (fun _ => rfl) hlk (fun fs hr => X0.returnOut hx Bd.returns (hb hby own_d_jdk_65_method_30_code_73) hr) ?_ (by decide) (by decide)
  show own_Q_rm5 Z p2 p3 h0 n0 _ s₁.heap _
  rw [e0]
  exact ⟨rfl, N0, rfl⟩
theorem own_d_jdk_48_method_14_code_0 : decode jdk_48_method_14_code 0 = .ok (.iconst 0, 1) := by decide +kernel
theorem own_d_jdk_48_method_14_code_1 : decode jdk_48_method_14_code 1 = .ok (.istore 5, 2) := by decide +kernel
theorem own_d_jdk_48_method_14_code_3 : decode jdk_48_method_14_code 3 = .ok (.iload 4, 2) := by decide +kernel
theorem own_d_jdk_48_method_14_code_5 : decode jdk_48_method_14_code 5 = .ok (.bipush 7, 2) := by decide +kernel
theorem own_d_jdk_48_method_14_code_7 : decode jdk_48_method_14_code 7 = .ok (.if_icmp .le 63, 3) := by decide +kernel
theorem own_d_jdk_48_method_14_code_70 : decode jdk_48_method_14_code 70 = .ok (.iload 5, 2) := by decide +kernel
theorem own_d_jdk_48_method_14_code_72 : decode jdk_48_method_14_code 72 = .ok (.iload 4, 2) := by decide +kernel
theorem own_d_jdk_48_method_14_code_74 : decode jdk_48_method_14_code 74 = .ok (.if_icmp .ge 27, 3) := by decide +kernel
theorem own_d_jdk_48_method_14_code_77 : decode jdk_48_method_14_code 77 = .ok (.aload_n 0, 1) := by decide +kernel
theorem own_d_jdk_48_method_14_code_78 : decode jdk_48_method_14_code 78 = .ok (.iload_n 1, 1) := by decide +kernel
theorem own_d_jdk_48_method_14_code_79 : decode jdk_48_method_14_code 79 = .ok (.iload 5, 2) := by decide +kernel
theorem own_d_jdk_48_method_14_code_81 : decode jdk_48_method_14_code 81 = .ok (.iadd, 1) := by decide +kernel
theorem own_d_jdk_48_method_14_code_82 : decode jdk_48_method_14_code 82 = .ok (.baload, 1) := by decide +kernel
theorem own_d_jdk_48_method_14_code_83 : decode jdk_48_method_14_code 83 = .ok (.aload_n 2, 1) := by decide +kernel
theorem own_d_jdk_48_method_14_code_84 : decode jdk_48_method_14_code 84 = .ok (.iload_n 3, 1) := by decide +kernel
theorem own_d_jdk_48_method_14_code_85 : decode jdk_48_method_14_code 85 = .ok (.iload 5, 2) := by decide +kernel
theorem own_d_jdk_48_method_14_code_87 : decode jdk_48_method_14_code 87 = .ok (.iadd, 1) := by decide +kernel
theorem own_d_jdk_48_method_14_code_88 : decode jdk_48_method_14_code 88 = .ok (.baload, 1) := by decide +kernel
theorem own_d_jdk_48_method_14_code_89 : decode jdk_48_method_14_code 89 = .ok (.if_icmp .eq 6, 3) := by decide +kernel
theorem own_d_jdk_48_method_14_code_95 : decode jdk_48_method_14_code 95 = .ok (.iinc 5 1, 3) := by decide +kernel
theorem own_d_jdk_48_method_14_code_98 : decode jdk_48_method_14_code 98 = .ok (.goto (-28), 3) := by decide +kernel
theorem own_d_jdk_48_method_14_code_101 : decode jdk_48_method_14_code 101 = .ok (.iconst (-1), 1) := by decide +kernel
theorem own_d_jdk_48_method_14_code_102 : decode jdk_48_method_14_code 102 = .ok (.ireturn, 1) := by decide +kernel
theorem own_pn2 : plainName "jdk/internal/util/ArraysSupport" = true := by first | (simp [plainName, overriddenIn]; done) | decide +kernel
theorem own_ef_rm6 (m : MethodId) (x0 : Addr) (x1 : Int32) (x2 : Addr) (x3 : Int32) (x4 : Int32) : entryFrame m #[(.ref x0), (.int x1), (.ref x2), (.int x3), (.int x4)] 8 = mkF m 0 #[.val (.ref x0), .val (.int x1), .val (.ref x2), .val (.int x3), .val (.int x4), .unset, .unset, .unset] [] := by first | (simp [entryFrame, mkF, argsToLocals, Value.category]; done) | rfl
def own_Q_rm6 (Z : State) (ab : Addr) (kb : ClassId) (b0 b1 : Int32) (h0 : Heap) (n0 : Nat) (v : Option Value) (h : Heap) (L : List Loc) : Prop := v = some (.int (-1)) ∧ Fr n0 L ∧ h = h0
set_option maxRecDepth 65536 in
set_option maxHeartbeats 40000000 in
theorem rm6 (l : Launch) (Z : State) (a0 : Array Value) (hw : ∀ d ∈ tables_1, d.before a0 Z = true) (ws : List Jvm.Cond) (ab : Addr) (kb : ClassId) (b0 b1 : Int32) (h0 : Heap) (n0 : Nat) (Z0 : n0 ≤ h0.size) (A_ab : Arf Z h0 ab kb .byte 2 (own_B b0 b1)) (he : b0 = b1) :
    OMet l Z (⟨"jdk/internal/util/ArraysSupport", "mismatch", "([BI[BII)I"⟩ : MethodName) jdk_48_method_14_code 8 (some .int) ws ({ frames := 0, cells := 0, slots := 0, locals := 0 } : Room) #[(.ref ab), (.int (0 : Int32)), (.ref ab), (.int (1 : Int32)), (.int (1 : Int32))] h0 (own_Q_rm6 Z ab kb b0 b1 h0 n0) := by
  refine MetFree.of_bodySF (plainFor_of_name own_pn2) hisR ?_
  intro p e s m args below meth c s₁ Bd hml0 hP hK
  obtain ⟨rfl, hZ, hh⟩ := hP
  have hx := Bd.exec
  have hby := Bd.bytes
  have hml : c.maxLocals = 8 := hml0
  have hown : s.vm.findClass "jdk/internal/util/ArraysSupport" = some m.cls := findClass_of_methodNamed Bd.named
  have hnm := (name_of_methodNamed Bd.named Bd.method).1
  have hlk : meth.locks = false := Bd.notSynchronized
  have X0 : Stand p l e ({ frames := 0, cells := 0, slots := 0, locals := 0 } : Room) s m #[(.ref ab), (.int (0 : Int32)), (.ref ab), (.int (1 : Int32)), (.int (1 : Int32))] below meth c s₁ [] 0 0 := Stand.of_body Bd
  have e0 : s₁.heap = h0 := by rw [← hh, Bd.state]; rfl
  have N0 := Fr.nil n0
  refine OGo.enter (P := OPost s (own_Q_rm6 Z ab kb b0 b1 h0 n0) 0 0) (own_ef_rm6 m ab (0 : Int32) ab (1 : Int32) (1 : Int32)) ?_
  show OGo p.tables e below _ (s₁.setTop (mkF m 0 #[.val (.ref ab), .val (.int (0 : Int32)), .val (.ref ab), .val (.int (1 : Int32)), .val (.int (1 : Int32)), .unset, .unset, .unset] []))
  refine OGo.st (fun _ k_ => XS.iconst X0.here hx rfl (hb hby own_d_jdk_48_method_14_code_0) k_) ?_
  show OGo p.tables e below _ (s₁.setTop (mkF m 1 #[.val (.ref ab), .val (.int (0 : Int32)), .val (.ref ab), .val (.int (1 : Int32)), .val (.int (1 : Int32)), .unset, .unset, .unset] [(.int (0 : Int32))]))
  refine OGo.st (fun _ k_ => XS.istore X0.here hx rfl (hb hby own_d_jdk_48_method_14_code_1) rfl (l' := #[.val (.ref ab), .val (.int (0 : Int32)), .val (.ref ab), .val (.int (1 : Int32)), .val (.int (1 : Int32)), .val (.int (0 : Int32)), .unset, .unset]) rfl k_) ?_
  show OGo p.tables e below _ (s₁.setTop (mkF m 3 #[.val (.ref ab), .val (.int (0 : Int32)), .val (.ref ab), .val (.int (1 : Int32)), .val (.int (1 : Int32)), .val (.int (0 : Int32)), .unset, .unset] []))
  refine OGo.st (fun _ k_ => XS.iload X0.here hx rfl (hb hby own_d_jdk_48_method_14_code_3) rfl k_) ?_
  show OGo p.tables e below _ (s₁.setTop (mkF m 5 #[.val (.ref ab), .val (.int (0 : Int32)), .val (.ref ab), .val (.int (1 : Int32)), .val (.int (1 : Int32)), .val (.int (0 : Int32)), .unset, .unset] [(.int (1 : Int32))]))
  refine OGo.st (fun _ k_ => XS.bipush X0.here hx rfl (hb hby own_d_jdk_48_method_14_code_5) k_) ?_
  show OGo p.tables e below _ (s₁.setTop (mkF m 7 #[.val (.ref ab), .val (.int (0 : Int32)), .val (.ref ab), .val (.int (1 : Int32)), .val (.int (1 : Int32)), .val (.int (0 : Int32)), .unset, .unset] [(.int (7 : Int32)), (.int (1 : Int32))]))
  refine OGo.st (fun _ k_ => XS.icmpYes X0.here hx rfl (pc0 := 7) (pc' := 70) rfl (hb hby own_d_jdk_48_method_14_code_7) rfl (XT.ii_le_t (by decide)) (by decide) (by decide) k_) ?_
  show OGo p.tables e below _ (s₁.setTop (mkF m 70 #[.val (.ref ab), .val (.int (0 : Int32)), .val (.ref ab), .val (.int (1 : Int32)), .val (.int (1 : Int32)), .val (.int (0 : Int32)), .unset, .unset] []))
  refine OGo.st (fun _ k_ => XS.iload X0.here hx rfl (hb hby own_d_jdk_48_method_14_code_70) rfl k_) ?_
  show OGo p.tables e below _ (s₁.setTop (mkF m 72 #[.val (.ref ab), .val (.int (0 : Int32)), .val (.ref ab), .val (.int (1 : Int32)), .val (.int (1 : Int32)), .val (.int (0 : Int32)), .unset, .unset] [(.int (0 : Int32))]))
  refine OGo.st (fun _ k_ => XS.iload X0.here hx rfl (hb hby own_d_jdk_48_method_14_code_72) rfl k_) ?_
  show OGo p.tables e below _ (s₁.setTop (mkF m 74 #[.val (.ref ab), .val (.int (0 : Int32)), .val (.ref ab), .val (.int (1 : Int32)), .val (.int (1 : Int32)), .val (.int (0 : Int32)), .unset, .unset] [(.int (1 : Int32)), (.int (0 : Int32))]))
  refine OGo.st (fun _ k_ => XS.icmpNo X0.here hx rfl (hb hby own_d_jdk_48_method_14_code_74) rfl (XT.ii_ge_f (by decide)) k_) ?_
  show OGo p.tables e below _ (s₁.setTop (mkF m 77 #[.val (.ref ab), .val (.int (0 : Int32)), .val (.ref ab), .val (.int (1 : Int32)), .val (.int (1 : Int32)), .val (.int (0 : Int32)), .unset, .unset] []))
  refine OGo.st (fun _ k_ => XS.aloadN X0.here hx rfl (hb hby own_d_jdk_48_method_14_code_77) rfl rfl k_) ?_
  show OGo p.tables e below _ (s₁.setTop (mkF m 78 #[.val (.ref ab), .val (.int (0 : Int32)), .val (.ref ab), .val (.int (1 : Int32)), .val (.int (1 : Int32)), .val (.int (0 : Int32)), .unset, .unset] [(.ref ab)]))
  refine OGo.st (fun _ k_ => XS.iloadN X0.here hx rfl (hb hby own_d_jdk_48_method_14_code_78) rfl k_) ?_
  show OGo p.tables e below _ (s₁.setTop (mkF m 79 #[.val (.ref ab), .val (.int (0 : Int32)), .val (.ref ab), .val (.int (1 : Int32)), .val (.int (1 : Int32)), .val (.int (0 : Int32)), .unset, .unset] [(.int (0 : Int32)), (.ref ab)]))
  refine OGo.st (fun _ k_ => XS.iload X0.here hx rfl (hb hby own_d_jdk_48_method_14_code_79) rfl k_) ?_
  show OGo p.tables e below _ (s₁.setTop (mkF m 81 #[.val (.ref ab), .val (.int (0 : Int32)), .val (.ref ab), .val (.int (1 : Int32)), .val (.int (1 : Int32)), .val (.int (0 : Int32)), .unset, .unset] [(.int (0 : Int32)), (.int (0 : Int32)), (.ref ab)]))
  refine OGo.st (fun _ k_ => XS.iadd X0.here hx rfl (hb hby own_d_jdk_48_method_14_code_81) rfl k_) ?_
  show OGo p.tables e below _ (s₁.setTop (mkF m 82 #[.val (.ref ab), .val (.int (0 : Int32)), .val (.ref ab), .val (.int (1 : Int32)), .val (.int (1 : Int32)), .val (.int (0 : Int32)), .unset, .unset] [(.int (0 : Int32)), (.ref ab)]))
  have qz1 := own_ldB X0 hx hZ e0 A_ab (j := (0 : Int32)) (v := b0) (by decide) rfl (g := (mkF m 82 #[.val (.ref ab), .val (.int (0 : Int32)), .val (.ref ab), .val (.int (1 : Int32)), .val (.int (1 : Int32)), .val (.int (0 : Int32)), .unset, .unset] [(.int (0 : Int32)), (.ref ab)])) rfl rfl (hb hby own_d_jdk_48_method_14_code_82)
  refine OGo.st qz1 ?_
  show OGo p.tables e below _ (s₁.setTop (mkF m 83 #[.val (.ref ab), .val (.int (0 : Int32)), .val (.ref ab), .val (.int (1 : Int32)), .val (.int (1 : Int32)), .val (.int (0 : Int32)), .unset, .unset] [(.int b0)]))
  refine OGo.st (fun _ k_ => XS.aloadN X0.here hx rfl (hb hby own_d_jdk_48_method_14_code_83) rfl rfl k_) ?_
  show OGo p.tables e below _ (s₁.setTop (mkF m 84 #[.val (.ref ab), .val (.int (0 : Int32)), .val (.ref ab), .val (.int (1 : Int32)), .val (.int (1 : Int32)), .val (.int (0 : Int32)), .unset, .unset] [(.ref ab), (.int b0)]))
  refine OGo.st (fun _ k_ => XS.iloadN X0.here hx rfl (hb hby own_d_jdk_48_method_14_code_84) rfl k_) ?_
  show OGo p.tables e below _ (s₁.setTop (mkF m 85 #[.val (.ref ab), .val (.int (0 : Int32)), .val (.ref ab), .val (.int (1 : Int32)), .val (.int (1 : Int32)), .val (.int (0 : Int32)), .unset, .unset] [(.int (1 : Int32)), (.ref ab), (.int b0)]))
  refine OGo.st (fun _ k_ => XS.iload X0.here hx rfl (hb hby own_d_jdk_48_method_14_code_85) rfl k_) ?_
  show OGo p.tables e below _ (s₁.setTop (mkF m 87 #[.val (.ref ab), .val (.int (0 : Int32)), .val (.ref ab), .val (.int (1 : Int32)), .val (.int (1 : Int32)), .val (.int (0 : Int32)), .unset, .unset] [(.int (0 : Int32)), (.int (1 : Int32)), (.ref ab), (.int b0)]))
  refine OGo.st (fun _ k_ => XS.iadd X0.here hx rfl (hb hby own_d_jdk_48_method_14_code_87) rfl k_) ?_
  show OGo p.tables e below _ (s₁.setTop (mkF m 88 #[.val (.ref ab), .val (.int (0 : Int32)), .val (.ref ab), .val (.int (1 : Int32)), .val (.int (1 : Int32)), .val (.int (0 : Int32)), .unset, .unset] [(.int (1 : Int32)), (.ref ab), (.int b0)]))
  have qz2 := own_ldB X0 hx hZ e0 A_ab (j := (1 : Int32)) (v := b1) (by decide) rfl (g := (mkF m 88 #[.val (.ref ab), .val (.int (0 : Int32)), .val (.ref ab), .val (.int (1 : Int32)), .val (.int (1 : Int32)), .val (.int (0 : Int32)), .unset, .unset] [(.int (1 : Int32)), (.ref ab), (.int b0)])) rfl rfl (hb hby own_d_jdk_48_method_14_code_88)
  refine OGo.st qz2 ?_
  show OGo p.tables e below _ (s₁.setTop (mkF m 89 #[.val (.ref ab), .val (.int (0 : Int32)), .val (.ref ab), .val (.int (1 : Int32)), .val (.int (1 : Int32)), .val (.int (0 : Int32)), .unset, .unset] [(.int b1), (.int b0)]))
  refine OGo.st (fun _ k_ => XS.icmpYes X0.here hx rfl (pc0 := 89) (pc' := 95) rfl (hb hby own_d_jdk_48_method_14_code_89) rfl (XT.ii_eq_t he) (by decide) (by decide) k_) ?_
  show OGo p.tables e below _ (s₁.setTop (mkF m 95 #[.val (.ref ab), .val (.int (0 : Int32)), .val (.ref ab), .val (.int (1 : Int32)), .val (.int (1 : Int32)), .val (.int (0 : Int32)), .unset, .unset] []))
  refine OGo.st (fun _ k_ => XS.iinc X0.here hx rfl (hb hby own_d_jdk_48_method_14_code_95) rfl (l' := #[.val (.ref ab), .val (.int (0 : Int32)), .val (.ref ab), .val (.int (1 : Int32)), .val (.int (1 : Int32)), .val (.int (1 : Int32)), .unset, .unset]) rfl k_) ?_
  show OGo p.tables e below _ (s₁.setTop (mkF m 98 #[.val (.ref ab), .val (.int (0 : Int32)), .val (.ref ab), .val (.int (1 : Int32)), .val (.int (1 : Int32)), .val (.int (1 : Int32)), .unset, .unset] []))
  refine OGo.st (fun _ k_ => XS.goto X0.here hx rfl (pc0 := 98) (pc' := 70) rfl (hb hby own_d_jdk_48_method_14_code_98) (by decide) (by decide) k_) ?_
  show OGo p.tables e below _ (s₁.setTop (mkF m 70 #[.val (.ref ab), .val (.int (0 : Int32)), .val (.ref ab), .val (.int (1 : Int32)), .val (.int (1 : Int32)), .val (.int (1 : Int32)), .unset, .unset] []))
  refine OGo.st (fun _ k_ => XS.iload X0.here hx rfl (hb hby own_d_jdk_48_method_14_code_70) rfl k_) ?_
  show OGo p.tables e below _ (s₁.setTop (mkF m 72 #[.val (.ref ab), .val (.int (0 : Int32)), .val (.ref ab), .val (.int (1 : Int32)), .val (.int (1 : Int32)), .val (.int (1 : Int32)), .unset, .unset] [(.int (1 : Int32))]))
  refine OGo.st (fun _ k_ => XS.iload X0.here hx rfl (hb hby own_d_jdk_48_method_14_code_72) rfl k_) ?_
  show OGo p.tables e below _ (s₁.setTop (mkF m 74 #[.val (.ref ab), .val (.int (0 : Int32)), .val (.ref ab), .val (.int (1 : Int32)), .val (.int (1 : Int32)), .val (.int (1 : Int32)), .unset, .unset] [(.int (1 : Int32)), (.int (1 : Int32))]))
  refine OGo.st (fun _ k_ => XS.icmpYes X0.here hx rfl (pc0 := 74) (pc' := 101) rfl (hb hby own_d_jdk_48_method_14_code_74) rfl (XT.ii_ge_t (by decide)) (by decide) (by decide) k_) ?_
  show OGo p.tables e below _ (s₁.setTop (mkF m 101 #[.val (.ref ab), .val (.int (0 : Int32)), .val (.ref ab), .val (.int (1 : Int32)), .val (.int (1 : Int32)), .val (.int (1 : Int32)), .unset, .unset] []))
  refine OGo.st (fun _ k_ => XS.iconst X0.here hx rfl (hb hby own_d_jdk_48_method_14_code_101) k_) ?_
  show OGo p.tables e below _ (s₁.setTop (mkF m 102 #[.val (.ref ab), .val (.int (0 : Int32)), .val (.ref ab), .val (.int (1 : Int32)), .val (.int (1 : Int32)), .val (.int (1 : Int32)), .unset, .unset] [(.int (-1 : Int32))]))
  refine OGo.fin X0 (v := some (.int (-1 : Int32))) (fun h => by rw [Bd.returns] at h; cases h) hlk (fun fs hr => X0.ireturnOut hx Bd.returns rfl (Or.inl rfl) (hb hby own_d_jdk_48_method_14_code_102) hr) ?_ (by decide) (by decide)
  show own_Q_rm6 Z ab kb b0 b1 h0 n0 _ s₁.heap _
  rw [e0]
  exact ⟨rfl, N0, rfl⟩
theorem own_d_jdk_65_method_90_code_0 : decode jdk_65_method_90_code 0 = .ok (.aload_n 0, 1) := by decide +kernel
theorem own_d_jdk_65_method_90_code_1 : decode jdk_65_method_90_code 1 = .ok (.arraylength, 1) := by decide +kernel
theorem own_d_jdk_65_method_90_code_2 : decode jdk_65_method_90_code 2 = .ok (.iload_n 1, 1) := by decide +kernel
theorem own_d_jdk_65_method_90_code_3 : decode jdk_65_method_90_code 3 = .ok (.iload_n 2, 1) := by decide +kernel
theorem own_d_jdk_65_method_90_code_4 : decode jdk_65_method_90_code 4 = .ok (.invokestatic 13, 3) := by decide +kernel
theorem own_pd0 : parseMethodDescriptor "(III)V" = some ⟨[.int, .int, .int], none⟩ := by decide +kernel
theorem own_d_jdk_65_method_90_code_7 : decode jdk_65_method_90_code 7 = .ok (.aload_n 3, 1) := by decide +kernel
theorem own_d_jdk_65_method_90_code_8 : decode jdk_65_method_90_code 8 = .ok (.arraylength, 1) := by decide +kernel
theorem own_d_jdk_65_method_90_code_9 : decode jdk_65_method_90_code 9 = .ok (.iload 4, 2) := by decide +kernel
theorem own_d_jdk_65_method_90_code_11 : decode jdk_65_method_90_code 11 = .ok (.iload 5, 2) := by decide +kernel
theorem own_d_jdk_65_method_90_code_13 : decode jdk_65_method_90_code 13 = .ok (.invokestatic 13, 3) := by decide +kernel
theorem own_d_jdk_65_method_90_code_16 : decode jdk_65_method_90_code 16 = .ok (.iload_n 2, 1) := by decide +kernel
theorem own_d_jdk_65_method_90_code_17 : decode jdk_65_method_90_code 17 = .ok (.iload_n 1, 1) := by decide +kernel
theorem own_d_jdk_65_method_90_code_18 : decode jdk_65_method_90_code 18 = .ok (.isub, 1) := by decide +kernel
theorem own_d_jdk_65_method_90_code_19 : decode jdk_65_method_90_code 19 = .ok (.istore 6, 2) := by decide +kernel
theorem own_d_jdk_65_method_90_code_21 : decode jdk_65_method_90_code 21 = .ok (.iload 5, 2) := by decide +kernel
theorem own_d_jdk_65_method_90_code_23 : decode jdk_65_method_90_code 23 = .ok (.iload 4, 2) := by decide +kernel
theorem own_d_jdk_65_method_90_code_25 : decode jdk_65_method_90_code 25 = .ok (.isub, 1) := by decide +kernel
theorem own_d_jdk_65_method_90_code_26 : decode jdk_65_method_90_code 26 = .ok (.istore 7, 2) := by decide +kernel
theorem own_d_jdk_65_method_90_code_28 : decode jdk_65_method_90_code 28 = .ok (.iload 6, 2) := by decide +kernel
theorem own_d_jdk_65_method_90_code_30 : decode jdk_65_method_90_code 30 = .ok (.iload 7, 2) := by decide +kernel
theorem own_d_jdk_65_method_90_code_32 : decode jdk_65_method_90_code 32 = .ok (.if_icmp .eq 5, 3) := by decide +kernel
theorem own_d_jdk_65_method_90_code_37 : decode jdk_65_method_90_code 37 = .ok (.aload_n 0, 1) := by decide +kernel
theorem own_d_jdk_65_method_90_code_38 : decode jdk_65_method_90_code 38 = .ok (.iload_n 1, 1) := by decide +kernel
theorem own_d_jdk_65_method_90_code_39 : decode jdk_65_method_90_code 39 = .ok (.aload_n 3, 1) := by decide +kernel
theorem own_d_jdk_65_method_90_code_40 : decode jdk_65_method_90_code 40 = .ok (.iload 4, 2) := by decide +kernel
theorem own_d_jdk_65_method_90_code_42 : decode jdk_65_method_90_code 42 = .ok (.iload 6, 2) := by decide +kernel
theorem own_d_jdk_65_method_90_code_44 : decode jdk_65_method_90_code 44 = .ok (.invokestatic 275, 3) := by decide +kernel
theorem own_pd1 : parseMethodDescriptor "([BI[BII)I" = some ⟨[(.array .byte), .int, (.array .byte), .int, .int], some .int⟩ := by decide +kernel
theorem own_d_jdk_65_method_90_code_47 : decode jdk_65_method_90_code 47 = .ok (.ifCond .ge 7, 3) := by decide +kernel
theorem own_d_jdk_65_method_90_code_50 : decode jdk_65_method_90_code 50 = .ok (.iconst 1, 1) := by decide +kernel
theorem own_d_jdk_65_method_90_code_51 : decode jdk_65_method_90_code 51 = .ok (.goto 4, 3) := by decide +kernel
theorem own_d_jdk_65_method_90_code_55 : decode jdk_65_method_90_code 55 = .ok (.ireturn, 1) := by decide +kernel
theorem own_ef_rm7 (m : MethodId) (x0 : Addr) (x1 : Int32) (x2 : Int32) (x3 : Addr) (x4 : Int32) (x5 : Int32) : entryFrame m #[(.ref x0), (.int x1), (.int x2), (.ref x3), (.int x4), (.int x5)] 8 = mkF m 0 #[.val (.ref x0), .val (.int x1), .val (.int x2), .val (.ref x3), .val (.int x4), .val (.int x5), .unset, .unset] [] := by first | (simp [entryFrame, mkF, argsToLocals, Value.category]; done) | rfl
def own_Q_rm7 (Z : State) (ab : Addr) (kb : ClassId) (b0 b1 : Int32) (h0 : Heap) (n0 : Nat) (v : Option Value) (h : Heap) (L : List Loc) : Prop := v = some (.int 1) ∧ Fr n0 L ∧ h = h0
set_option maxRecDepth 65536 in
set_option maxHeartbeats 40000000 in
theorem rm7 (l : Launch) (Z : State) (a0 : Array Value) (hw : ∀ d ∈ tables_1, d.before a0 Z = true) (ws : List Jvm.Cond) (ab : Addr) (kb : ClassId) (b0 b1 : Int32) (h0 : Heap) (n0 : Nat) (Z0 : n0 ≤ h0.size) (A_ab : Arf Z h0 ab kb .byte 2 (own_B b0 b1)) (he : b0 = b1) :
    OMet l Z (⟨"java/util/Arrays", "equals", "([BII[BII)Z"⟩ : MethodName) jdk_65_method_90_code 8 (some .boolean) ws ({ frames := 1, cells := 0, slots := 0, locals := 19 } : Room) #[(.ref ab), (.int (0 : Int32)), (.int (1 : Int32)), (.ref ab), (.int (1 : Int32)), (.int (2 : Int32))] h0 (own_Q_rm7 Z ab kb b0 b1 h0 n0) := by
  refine MetFree.of_bodySF (plainFor_of_name own_pn1) hisR ?_
  intro p e s m args below meth c s₁ Bd hml0 hP hK
  obtain ⟨rfl, hZ, hh⟩ := hP
  have hx := Bd.exec
  have hby := Bd.bytes
  have hml : c.maxLocals = 8 := hml0
  have hown : s.vm.findClass "java/util/Arrays" = some m.cls := findClass_of_methodNamed Bd.named
  have hnm := (name_of_methodNamed Bd.named Bd.method).1
  have hlk : meth.locks = false := Bd.notSynchronized
  have X0 : Stand p l e ({ frames := 1, cells := 0, slots := 0, locals := 19 } : Room) s m #[(.ref ab), (.int (0 : Int32)), (.int (1 : Int32)), (.ref ab), (.int (1 : Int32)), (.int (2 : Int32))] below meth c s₁ [] 0 0 := Stand.of_body Bd
  have e0 : s₁.heap = h0 := by rw [← hh, Bd.state]; rfl
  have N0 := Fr.nil n0
  refine OGo.enter (P := OPost s (own_Q_rm7 Z ab kb b0 b1 h0 n0) 0 0) (own_ef_rm7 m ab (0 : Int32) (1 : Int32) ab (1 : Int32) (2 : Int32)) ?_
  show OGo p.tables e below _ (s₁.setTop (mkF m 0 #[.val (.ref ab), .val (.int (0 : Int32)), .val (.int (1 : Int32)), .val (.ref ab), .val (.int (1 : Int32)), .val (.int (2 : Int32)), .unset, .unset] []))
  refine OGo.st (fun _ k_ => XS.aloadN X0.here hx rfl (hb hby own_d_jdk_65_method_90_code_0) rfl rfl k_) ?_
  show OGo p.tables e below _ (s₁.setTop (mkF m 1 #[.val (.ref ab), .val (.int (0 : Int32)), .val (.int (1 : Int32)), .val (.ref ab), .val (.int (1 : Int32)), .val (.int (2 : Int32)), .unset, .unset] [(.ref ab)]))
  have qz1 := own_alen X0 hx hZ e0 A_ab (g := (mkF m 1 #[.val (.ref ab), .val (.int (0 : Int32)), .val (.int (1 : Int32)), .val (.ref ab), .val (.int (1 : Int32)), .val (.int (2 : Int32)), .unset, .unset] [(.ref ab)])) rfl rfl (hb hby own_d_jdk_65_method_90_code_1)
  refine OGo.st qz1 ?_
  show OGo p.tables e below _ (s₁.setTop (mkF m 2 #[.val (.ref ab), .val (.int (0 : Int32)), .val (.int (1 : Int32)), .val (.ref ab), .val (.int (1 : Int32)), .val (.int (2 : Int32)), .unset, .unset] [(.int (2 : Int32))]))
  refine OGo.st (fun _ k_ => XS.iloadN X0.here hx rfl (hb hby own_d_jdk_65_method_90_code_2) rfl k_) ?_
  show OGo p.tables e below _ (s₁.setTop (mkF m 3 #[.val (.ref ab), .val (.int (0 : Int32)), .val (.int (1 : Int32)), .val (.ref ab), .val (.int (1 : Int32)), .val (.int (2 : Int32)), .unset, .unset] [(.int (0 : Int32)), (.int (2 : Int32))]))
  refine OGo.st (fun _ k_ => XS.iloadN X0.here hx rfl (hb hby own_d_jdk_65_method_90_code_3) rfl k_) ?_
  show OGo p.tables e below _ (s₁.setTop (mkF m 4 #[.val (.ref ab), .val (.int (0 : Int32)), .val (.int (1 : Int32)), .val (.ref ab), .val (.int (1 : Int32)), .val (.int (2 : Int32)), .unset, .unset] [(.int (1 : Int32)), (.int (0 : Int32)), (.int (2 : Int32))]))
  obtain ⟨_, _, ⟨T2, Lz2, kz2, nz2⟩, -, X2, ⟨Lc2, hQ2, lz2, yz2, zz2⟩, st2⟩ := Jvm.LawKit.callS X0 hx (y := (⟨"java/util/Arrays", "rangeCheck", "(III)V"⟩ : MethodName)) hown (mvT hZ (hw _ (List.mem_of_getElem? (i := 72) rfl))) (mvT hZ (hw _ (List.mem_of_getElem? (i := 73) rfl))) (mvT hZ (hw _ (List.mem_of_getElem? (i := 70) rfl))) (mvT hZ (hw _ (List.mem_of_getElem? (i := 74) rfl))) (by decide) (backOf (W := 0) (rm5 l Z a0 hw [] (0 : Int32) (1 : Int32) h0 n0 (Nat.le_trans Z0 (Keep.refl h0 []).1) (by decide) (by decide) (by decide)) hZ (hw _ (List.mem_of_getElem? (i := 74) rfl)) (hw _ (List.mem_of_getElem? (i := 70) rfl)) (by decide) (by decide)) (g := (mkF m 4 #[.val (.ref ab), .val (.int (0 : Int32)), .val (.int (1 : Int32)), .val (.ref ab), .val (.int (1 : Int32)), .val (.int (2 : Int32)), .unset, .unset] [(.int (1 : Int32)), (.int (0 : Int32)), (.int (2 : Int32))])) rfl (by rw [hml]; rfl) (argsL := [(.int (2 : Int32)), (.int (0 : Int32)), (.int (1 : Int32))]) (rest := []) (lenOf own_pd0 rfl) rfl (by show 2 * 0 + _ ≤ _; exact Nat.le_of_eq rfl) (hb hby own_d_jdk_65_method_90_code_4) (fun _ _ => ⟨rfl, e0, (by decide : 0 + 0 ≤ _), (by decide : 0 + 0 ≤ _)⟩)
  dsimp only [Pt.U, Pt.locs, Pt.cells, Pt.slots] at X2 lz2 yz2 zz2 st2 hQ2
  subst lz2 yz2 zz2
  obtain ⟨rfl, Nq2, ez2⟩ := hQ2
  have N2 := Fr.app N0 Nq2
  refine OGo.st st2 ?_
  show OGo p.tables e below _ (T2.setTop (mkF m 7 #[.val (.ref ab), .val (.int (0 : Int32)), .val (.int (1 : Int32)), .val (.ref ab), .val (.int (1 : Int32)), .val (.int (2 : Int32)), .unset, .unset] []))
  refine OGo.st (fun _ k_ => XS.aloadN X2.here hx rfl (hb hby own_d_jdk_65_method_90_code_7) rfl rfl k_) ?_
  show OGo p.tables e below _ (T2.setTop (mkF m 8 #[.val (.ref ab), .val (.int (0 : Int32)), .val (.int (1 : Int32)), .val (.ref ab), .val (.int (1 : Int32)), .val (.int (2 : Int32)), .unset, .unset] [(.ref ab)]))
  have qz3 := own_alen X2 hx hZ ez2 A_ab (g := (mkF m 8 #[.val (.ref ab), .val (.int (0 : Int32)), .val (.int (1 : Int32)), .val (.ref ab), .val (.int (1 : Int32)), .val (.int (2 : Int32)), .unset, .unset] [(.ref ab)])) rfl rfl (hb hby own_d_jdk_65_method_90_code_8)
  refine OGo.st qz3 ?_
  show OGo p.tables e below _ (T2.setTop (mkF m 9 #[.val (.ref ab), .val (.int (0 : Int32)), .val (.int (1 : Int32)), .val (.ref ab), .val (.int (1 : Int32)), .val (.int (2 : Int32)), .unset, .unset] [(.int (2 : Int32))]))
  refine OGo.st (fun _ k_ => XS.iload X2.here hx rfl (hb hby own_d_jdk_65_method_90_code_9) rfl k_) ?_
  show OGo p.tables e below _ (T2.setTop (mkF m 11 #[.val (.ref ab), .val (.int (0 : Int32)), .val (.int (1 : Int32)), .val (.ref ab), .val (.int (1 : Int32)), .val (.int (2 : Int32)), .unset, .unset] [(.int (1 : Int32)), (.int (2 : Int32))]))
  refine OGo.st (fun _ k_ => XS.iload X2.here hx rfl (hb hby own_d_jdk_65_method_90_code_11) rfl k_) ?_
  show OGo p.tables e below _ (T2.setTop (mkF m 13 #[.val (.ref ab), .val (.int (0 : Int32)), .val (.int (1 : Int32)), .val (.ref ab), .val (.int (1 : Int32)), .val (.int (2 : Int32)), .unset, .unset] [(.int (2 : Int32)), (.int (1 : Int32)), (.int (2 : Int32))]))
  obtain ⟨_, _, ⟨T4, Lz4, kz4, nz4⟩, -, X4, ⟨Lc4, hQ4, lz4, yz4, zz4⟩, st4⟩ := Jvm.LawKit.callS X2 hx (y := (⟨"java/util/Arrays", "rangeCheck", "(III)V"⟩ : MethodName)) hown (mvT hZ (hw _ (List.mem_of_getElem? (i := 72) rfl))) (mvT hZ (hw _ (List.mem_of_getElem? (i := 73) rfl))) (mvT hZ (hw _ (List.mem_of_getElem? (i := 70) rfl))) (mvT hZ (hw _ (List.mem_of_getElem? (i := 74) rfl))) (by decide) (backOf (W := 0) (rm5 l Z a0 hw [] (1 : Int32) (2 : Int32) h0 n0 (Nat.le_trans Z0 (Keep.refl h0 []).1) (by decide) (by decide) (by decide)) hZ (hw _ (List.mem_of_getElem? (i := 74) rfl)) (hw _ (List.mem_of_getElem? (i := 70) rfl)) (by decide) (by decide)) (g := (mkF m 13 #[.val (.ref ab), .val (.int (0 : Int32)), .val (.int (1 : Int32)), .val (.ref ab), .val (.int (1 : Int32)), .val (.int (2 : Int32)), .unset, .unset] [(.int (2 : Int32)), (.int (1 : Int32)), (.int (2 : Int32))])) rfl (by rw [hml]; rfl) (argsL := [(.int (2 : Int32)), (.int (1 : Int32)), (.int (2 : Int32))]) (rest := []) (lenOf own_pd0 rfl) rfl (by show 2 * 0 + _ ≤ _; exact Nat.le_of_eq rfl) (hb hby own_d_jdk_65_method_90_code_13) (fun _ _ => ⟨rfl, ez2, (by decide : 0 + 0 ≤ _), (by decide : 0 + 0 ≤ _)⟩)
  dsimp only [Pt.U, Pt.locs, Pt.cells, Pt.slots] at X4 lz4 yz4 zz4 st4 hQ4
  subst lz4 yz4 zz4
  obtain ⟨rfl, Nq4, ez4⟩ := hQ4
  have N4 := Fr.app N2 Nq4
  refine OGo.st st4 ?_
  show OGo p.tables e below _ (T4.setTop (mkF m 16 #[.val (.ref ab), .val (.int (0 : Int32)), .val (.int (1 : Int32)), .val (.ref ab), .val (.int (1 : Int32)), .val (.int (2 : Int32)), .unset, .unset] []))
  refine OGo.st (fun _ k_ => XS.iloadN X4.here hx rfl (hb hby own_d_jdk_65_method_90_code_16) rfl k_) ?_
  show OGo p.tables e below _ (T4.setTop (mkF m 17 #[.val (.ref ab), .val (.int (0 : Int32)), .val (.int (1 : Int32)), .val (.ref ab), .val (.int (1 : Int32)), .val (.int (2 : Int32)), .unset, .unset] [(.int (1 : Int32))]))
  refine OGo.st (fun _ k_ => XS.iloadN X4.here hx rfl (hb hby own_d_jdk_65_method_90_code_17) rfl k_) ?_
  show OGo p.tables e below _ (T4.setTop (mkF m 18 #[.val (.ref ab), .val (.int (0 : Int32)), .val (.int (1 : Int32)), .val (.ref ab), .val (.int (1 : Int32)), .val (.int (2 : Int32)), .unset, .unset] [(.int (0 : Int32)), (.int (1 : Int32))]))
  refine OGo.st (fun _ k_ => XS.isub X4.here hx rfl (hb hby own_d_jdk_65_method_90_code_18) rfl k_) ?_
  show OGo p.tables e below _ (T4.setTop (mkF m 19 #[.val (.ref ab), .val (.int (0 : Int32)), .val (.int (1 : Int32)), .val (.ref ab), .val (.int (1 : Int32)), .val (.int (2 : Int32)), .unset, .unset] [(.int (1 : Int32))]))
  refine OGo.st (fun _ k_ => XS.istore X4.here hx rfl (hb hby own_d_jdk_65_method_90_code_19) rfl (l' := #[.val (.ref ab), .val (.int (0 : Int32)), .val (.int (1 : Int32)), .val (.ref ab), .val (.int (1 : Int32)), .val (.int (2 : Int32)), .val (.int (1 : Int32)), .unset]) rfl k_) ?_
  show OGo p.tables e below _ (T4.setTop (mkF m 21 #[.val (.ref ab), .val (.int (0 : Int32)), .val (.int (1 : Int32)), .val (.ref ab), .val (.int (1 : Int32)), .val (.int (2 : Int32)), .val (.int (1 : Int32)), .unset] []))
  refine OGo.st (fun _ k_ => XS.iload X4.here hx rfl (hb hby own_d_jdk_65_method_90_code_21) rfl k_) ?_
  show OGo p.tables e below _ (T4.setTop (mkF m 23 #[.val (.ref ab), .val (.int (0 : Int32)), .val (.int (1 : Int32)), .val (.ref ab), .val (.int (1 : Int32)), .val (.int (2 : Int32)), .val (.int (1 : Int32)), .unset] [(.int (2 : Int32))]))
  refine OGo.st (fun _ k_ => XS.iload X4.here hx rfl (hb hby own_d_jdk_65_method_90_code_23) rfl k_) ?_
  show OGo p.tables e below _ (T4.setTop (mkF m 25 #[.val (.ref ab), .val (.int (0 : Int32)), .val (.int (1 : Int32)), .val (.ref ab), .val (.int (1 : Int32)), .val (.int (2 : Int32)), .val (.int (1 : Int32)), .unset] [(.int (1 : Int32)), (.int (2 : Int32))]))
  refine OGo.st (fun _ k_ => XS.isub X4.here hx rfl (hb hby own_d_jdk_65_method_90_code_25) rfl k_) ?_
  show OGo p.tables e below _ (T4.setTop (mkF m 26 #[.val (.ref ab), .val (.int (0 : Int32)), .val (.int (1 : Int32)), .val (.ref ab), .val (.int (1 : Int32)), .val (.int (2 : Int32)), .val (.int (1 : Int32)), .unset] [(.int (1 : Int32))]))
  refine OGo.st (fun _ k_ => XS.istore X4.here hx rfl (hb hby own_d_jdk_65_method_90_code_26) rfl (l' := #[.val (.ref ab), .val (.int (0 : Int32)), .val (.int (1 : Int32)), .val (.ref ab), .val (.int (1 : Int32)), .val (.int (2 : Int32)), .val (.int (1 : Int32)), .val (.int (1 : Int32))]) rfl k_) ?_
  show OGo p.tables e below _ (T4.setTop (mkF m 28 #[.val (.ref ab), .val (.int (0 : Int32)), .val (.int (1 : Int32)), .val (.ref ab), .val (.int (1 : Int32)), .val (.int (2 : Int32)), .val (.int (1 : Int32)), .val (.int (1 : Int32))] []))
  refine OGo.st (fun _ k_ => XS.iload X4.here hx rfl (hb hby own_d_jdk_65_method_90_code_28) rfl k_) ?_
  show OGo p.tables e below _ (T4.setTop (mkF m 30 #[.val (.ref ab), .val (.int (0 : Int32)), .val (.int (1 : Int32)), .val (.ref ab), .val (.int (1 : Int32)), .val (.int (2 : Int32)), .val (.int (1 : Int32)), .val (.int (1 : Int32))] [(.int (1 : Int32))]))
  refine OGo.st (fun _ k_ => XS.iload X4.here hx rfl (hb hby own_d_jdk_65_method_90_code_30) rfl k_) ?_
  show OGo p.tables e below _ (T4.setTop (mkF m 32 #[.val (.ref ab), .val (.int (0 : Int32)), .val (.int (1 : Int32)), .val (.ref ab), .val (.int (1 : Int32)), .val (.int (2 : Int32)), .val (.int (1 : Int32)), .val (.int (1 : Int32))] [(.int (1 : Int32)), (.int (1 : Int32))]))
  refine OGo.st (fun _ k_ => XS.icmpYes X4.here hx rfl (pc0 := 32) (pc' := 37) rfl (hb hby own_d_jdk_65_method_90_code_32) rfl (XT.ii_eq_t (by decide)) (by decide) (by decide) k_) ?_
  show OGo p.tables e below _ (T4.setTop (mkF m 37 #[.val (.ref ab), .val (.int (0 : Int32)), .val (.int (1 : Int32)), .val (.ref ab), .val (.int (1 : Int32)), .val (.int (2 : Int32)), .val (.int (1 : Int32)), .val (.int (1 : Int32))] []))
  refine OGo.st (fun _ k_ => XS.aloadN X4.here hx rfl (hb hby own_d_jdk_65_method_90_code_37) rfl rfl k_) ?_
  show OGo p.tables e below _ (T4.setTop (mkF m 38 #[.val (.ref ab), .val (.int (0 : Int32)), .val (.int (1 : Int32)), .val (.ref ab), .val (.int (1 : Int32)), .val (.int (2 : Int32)), .val (.int (1 : Int32)), .val (.int (1 : Int32))] [(.ref ab)]))
  refine OGo.st (fun _ k_ => XS.iloadN X4.here hx rfl (hb hby own_d_jdk_65_method_90_code_38) rfl k_) ?_
  show OGo p.tables e below _ (T4.setTop (mkF m 39 #[.val (.ref ab), .val (.int (0 : Int32)), .val (.int (1 : Int32)), .val (.ref ab), .val (.int (1 : Int32)), .val (.int (2 : Int32)), .val (.int (1 : Int32)), .val (.int (1 : Int32))] [(.int (0 : Int32)), (.ref ab)]))
  refine OGo.st (fun _ k_ => XS.aloadN X4.here hx rfl (hb hby own_d_jdk_65_method_90_code_39) rfl rfl k_) ?_
  show OGo p.tables e below _ (T4.setTop (mkF m 40 #[.val (.ref ab), .val (.int (0 : Int32)), .val (.int (1 : Int32)), .val (.ref ab), .val (.int (1 : Int32)), .val (.int (2 : Int32)), .val (.int (1 : Int32)), .val (.int (1 : Int32))] [(.ref ab), (.int (0 : Int32)), (.ref ab)]))
  refine OGo.st (fun _ k_ => XS.iload X4.here hx rfl (hb hby own_d_jdk_65_method_90_code_40) rfl k_) ?_
  show OGo p.tables e below _ (T4.setTop (mkF m 42 #[.val (.ref ab), .val (.int (0 : Int32)), .val (.int (1 : Int32)), .val (.ref ab), .val (.int (1 : Int32)), .val (.int (2 : Int32)), .val (.int (1 : Int32)), .val (.int (1 : Int32))] [(.int (1 : Int32)), (.ref ab), (.int (0 : Int32)), (.ref ab)]))
  refine OGo.st (fun _ k_ => XS.iload X4.here hx rfl (hb hby own_d_jdk_65_method_90_code_42) rfl k_) ?_
  show OGo p.tables e below _ (T4.setTop (mkF m 44 #[.val (.ref ab), .val (.int (0 : Int32)), .val (.int (1 : Int32)), .val (.ref ab), .val (.int (1 : Int32)), .val (.int (2 : Int32)), .val (.int (1 : Int32)), .val (.int (1 : Int32))] [(.int (1 : Int32)), (.int (1 : Int32)), (.ref ab), (.int (0 : Int32)), (.ref ab)]))
  obtain ⟨_, _, ⟨T5, Lz5, kz5, nz5⟩, -, X5, ⟨Lc5, hQ5, lz5, yz5, zz5⟩, st5⟩ := Jvm.LawKit.callS X4 hx (y := (⟨"jdk/internal/util/ArraysSupport", "mismatch", "([BI[BII)I"⟩ : MethodName)) hown (mvT hZ (hw _ (List.mem_of_getElem? (i := 75) rfl))) (mvT hZ (hw _ (List.mem_of_getElem? (i := 76) rfl))) (mvT hZ (hw _ (List.mem_of_getElem? (i := 77) rfl))) (mvT hZ (hw _ (List.mem_of_getElem? (i := 78) rfl))) (by decide) (backOf (W := 0) (rm6 l Z a0 hw [] ab kb b0 b1 h0 n0 (Nat.le_trans Z0 (Keep.refl h0 []).1) A_ab he) hZ (hw _ (List.mem_of_getElem? (i := 78) rfl)) (hw _ (List.mem_of_getElem? (i := 77) rfl)) (by decide) (by decide)) (g := (mkF m 44 #[.val (.ref ab), .val (.int (0 : Int32)), .val (.int (1 : Int32)), .val (.ref ab), .val (.int (1 : Int32)), .val (.int (2 : Int32)), .val (.int (1 : Int32)), .val (.int (1 : Int32))] [(.int (1 : Int32)), (.int (1 : Int32)), (.ref ab), (.int (0 : Int32)), (.ref ab)])) rfl (by rw [hml]; rfl) (argsL := [(.ref ab), (.int (0 : Int32)), (.ref ab), (.int (1 : Int32)), (.int (1 : Int32))]) (rest := []) (lenOf own_pd1 rfl) rfl (by show 2 * 0 + _ ≤ _; exact Nat.le_of_eq rfl) (hb hby own_d_jdk_65_method_90_code_44) (fun _ _ => ⟨rfl, ez4, (by decide : 0 + 0 ≤ _), (by decide : 0 + 0 ≤ _)⟩)
  dsimp only [Pt.U, Pt.locs, Pt.cells, Pt.slots] at X5 lz5 yz5 zz5 st5 hQ5
  subst lz5 yz5 zz5
  obtain ⟨rfl, Nq5, ez5⟩ := hQ5
  have N5 := Fr.app N4 Nq5
  refine OGo.st st5 ?_
  show OGo p.tables e below _ (T5.setTop (mkF m 47 #[.val (.ref ab), .val (.int (0 : Int32)), .val (.int (1 : Int32)), .val (.ref ab), .val (.int (1 : Int32)), .val (.int (2 : Int32)), .val (.int (1 : Int32)), .val (.int (1 : Int32))] [(.int (-1 : Int32))]))
  refine OGo.st (fun _ k_ => XS.ifNo X5.here hx rfl (hb hby own_d_jdk_65_method_90_code_47) rfl (XT.i0_ge_f (by decide)) k_) ?_
  show OGo p.tables e below _ (T5.setTop (mkF m 50 #[.val (.ref ab), .val (.int (0 : Int32)), .val (.int (1 : Int32)), .val (.ref ab), .val (.int (1 : Int32)), .val (.int (2 : Int32)), .val (.int (1 : Int32)), .val (.int (1 : Int32))] []))
  refine OGo.st (fun _ k_ => XS.iconst X5.here hx rfl (hb hby own_d_jdk_65_method_90_code_50) k_) ?_
  show OGo p.tables e below _ (T5.setTop (mkF m 51 #[.val (.ref ab), .val (.int (0 : Int32)), .val (.int (1 : Int32)), .val (.ref ab), .val (.int (1 : Int32)), .val (.int (2 : Int32)), .val (.int (1 : Int32)), .val (.int (1 : Int32))] [(.int (1 : Int32))]))
  refine OGo.st (fun _ k_ => XS.goto X5.here hx rfl (pc0 := 51) (pc' := 55) rfl (hb hby own_d_jdk_65_method_90_code_51) (by decide) (by decide) k_) ?_
  show OGo p.tables e below _ (T5.setTop (mkF m 55 #[.val (.ref ab), .val (.int (0 : Int32)), .val (.int (1 : Int32)), .val (.ref ab), .val (.int (1 : Int32)), .val (.int (2 : Int32)), .val (.int (1 : Int32)), .val (.int (1 : Int32))] [(.int (1 : Int32))]))
  refine OGo.fin X5 (v := some (.int (1 : Int32))) (fun h => by rw [Bd.returns] at h; cases h) hlk (fun fs hr => X5.ireturnOut hx Bd.returns rfl (by simp) (hb hby own_d_jdk_65_method_90_code_55) hr) ?_ (by decide) (by decide)
  show own_Q_rm7 Z ab kb b0 b1 h0 n0 _ T5.heap _
  rw [ez5]
  exact ⟨rfl, N5, rfl⟩
theorem own_d_prog_9_method_3_code_0 : decode prog_9_method_3_code 0 = .ok (.aload_n 0, 1) := by decide +kernel
theorem own_d_prog_9_method_3_code_1 : decode prog_9_method_3_code 1 = .ok (.getfield 9, 3) := by decide +kernel
theorem own_d_prog_9_method_3_code_4 : decode prog_9_method_3_code 4 = .ok (.arraylength, 1) := by decide +kernel
theorem own_d_prog_9_method_3_code_5 : decode prog_9_method_3_code 5 = .ok (.iconst 1, 1) := by decide +kernel
theorem own_d_prog_9_method_3_code_6 : decode prog_9_method_3_code 6 = .ok (.isub, 1) := by decide +kernel
theorem own_d_prog_9_method_3_code_7 : decode prog_9_method_3_code 7 = .ok (.istore 4, 2) := by decide +kernel
theorem own_d_prog_9_method_3_code_9 : decode prog_9_method_3_code 9 = .ok (.iload_n 3, 1) := by decide +kernel
theorem own_d_prog_9_method_3_code_10 : decode prog_9_method_3_code 10 = .ok (.invokestatic 43, 3) := by decide +kernel
theorem own_pd2 : parseMethodDescriptor "(I)I" = some ⟨[.int], some .int⟩ := by decide +kernel
theorem own_d_prog_9_method_3_code_13 : decode prog_9_method_3_code 13 = .ok (.iload 4, 2) := by decide +kernel
theorem own_d_prog_9_method_3_code_15 : decode prog_9_method_3_code 15 = .ok (.iand, 1) := by decide +kernel
theorem own_d_prog_9_method_3_code_16 : decode prog_9_method_3_code 16 = .ok (.istore 5, 2) := by decide +kernel
theorem own_d_prog_9_method_3_code_18 : decode prog_9_method_3_code 18 = .ok (.aload_n 0, 1) := by decide +kernel
theorem own_d_prog_9_method_3_code_19 : decode prog_9_method_3_code 19 = .ok (.getfield 9, 3) := by decide +kernel
theorem own_d_prog_9_method_3_code_22 : decode prog_9_method_3_code 22 = .ok (.iload 5, 2) := by decide +kernel
theorem own_d_prog_9_method_3_code_24 : decode prog_9_method_3_code 24 = .ok (.iaload, 1) := by decide +kernel
theorem own_d_prog_9_method_3_code_25 : decode prog_9_method_3_code 25 = .ok (.ifCond .eq 70, 3) := by decide +kernel
theorem own_d_prog_9_method_3_code_95 : decode prog_9_method_3_code 95 = .ok (.aload_n 0, 1) := by decide +kernel
theorem own_d_prog_9_method_3_code_96 : decode prog_9_method_3_code 96 = .ok (.iload_n 1, 1) := by decide +kernel
theorem own_d_prog_9_method_3_code_97 : decode prog_9_method_3_code 97 = .ok (.iload_n 2, 1) := by decide +kernel
theorem own_d_prog_9_method_3_code_98 : decode prog_9_method_3_code 98 = .ok (.iload_n 3, 1) := by decide +kernel
theorem own_d_prog_9_method_3_code_99 : decode prog_9_method_3_code 99 = .ok (.iload 5, 2) := by decide +kernel
theorem own_d_prog_9_method_3_code_101 : decode prog_9_method_3_code 101 = .ok (.invokevirtual 53, 3) := by decide +kernel
theorem own_pd3 : parseMethodDescriptor "(IIII)I" = some ⟨[.int, .int, .int, .int], some .int⟩ := by decide +kernel
theorem own_sel0 (Z : State) (a0 : Array Value) (hw : ∀ d ∈ tables_1, d.before a0 Z = true) : (Jvm.Cond.selects "com/example/nodal_ledger/nodalledger/csv/DistinctFields" (⟨"com/example/nodal_ledger/nodalledger/csv/DistinctFields", "added", "(IIII)I"⟩ : MethodName) (⟨"com/example/nodal_ledger/nodalledger/csv/DistinctFields", "added", "(IIII)I"⟩ : MethodName)).before a0 Z = true := own_selfsel (y := (⟨"com/example/nodal_ledger/nodalledger/csv/DistinctFields", "added", "(IIII)I"⟩ : MethodName)) (y0 := (⟨"com/example/nodal_ledger/nodalledger/csv/DistinctFields", "slot", "(II)I"⟩ : MethodName)) (hw _ (List.mem_of_getElem? (i := 34) rfl)) rfl (hw _ (List.mem_of_getElem? (i := 44) rfl)) (hw _ (List.mem_of_getElem? (i := 45) rfl)) (by decide)
theorem own_d_prog_9_method_3_code_104 : decode prog_9_method_3_code 104 = .ok (.ireturn, 1) := by decide +kernel
theorem own_ef_rm8 (m : MethodId) (x0 : Addr) (x1 : Int32) (x2 : Int32) (x3 : Int32) : entryFrame m #[(.ref x0), (.int x1), (.int x2), (.int x3)] 7 = mkF m 0 #[.val (.ref x0), .val (.int x1), .val (.int x2), .val (.int x3), .unset, .unset, .unset] [] := by first | (simp [entryFrame, mkF, argsToLocals, Value.category]; done) | rfl
def own_Q_rm8 (Z : State) (a1 : Addr) (hs : Int32) (at_ ah as_ ae av ar ab : Addr) (kt kh ks ke : ClassId) (h0 : Heap) (n0 : Nat) (v : Option Value) (h : Heap) (L : List Loc) : Prop := v = some (.int 0) ∧ Fr n0 L ∧ Keep h0 h [a1, at_, ah, as_, ae] ∧ Fld Z h a1 "com/example/nodal_ledger/nodalledger/csv/DistinctFields" "table" "[I" (.ref at_) ∧ Fld Z h a1 "com/example/nodal_ledger/nodalledger/csv/DistinctFields" "hashes" "[I" (.ref ah) ∧ Fld Z h a1 "com/example/nodal_ledger/nodalledger/csv/DistinctFields" "starts" "[I" (.ref as_) ∧ Fld Z h a1 "com/example/nodal_ledger/nodalledger/csv/DistinctFields" "ends" "[I" (.ref ae) ∧ Fld Z h a1 "com/example/nodal_ledger/nodalledger/csv/DistinctFields" "values" "[Ljava/lang/Object;" (.ref av) ∧ Fld Z h a1 "com/example/nodal_ledger/nodalledger/csv/DistinctFields" "readings" "[Ljava/lang/Object;" (.ref ar) ∧ Fld Z h a1 "com/example/nodal_ledger/nodalledger/csv/DistinctFields" "bytes" "[B" (.ref ab) ∧ Fld Z h a1 "com/example/nodal_ledger/nodalledger/csv/DistinctFields" "count" "I" (.int (1 : Int32)) ∧ Arf Z h at_ kt .int 1024 (own_upd (fun _ => .int 0) (own_sp hs &&& (1023 : Int32)).toNatClampNeg (.int (1 : Int32))) ∧ Arf Z h ah kh .int 512 (own_upd (fun _ => .int 0) (0 : Int32).toNatClampNeg (.int hs)) ∧ Arf Z h as_ ks .int 512 (own_upd (fun _ => .int 0) (0 : Int32).toNatClampNeg (.int (0 : Int32))) ∧ Arf Z h ae ke .int 512 (own_upd (fun _ => .int 0) (0 : Int32).toNatClampNeg (.int (1 : Int32)))
set_option maxRecDepth 65536 in
set_option maxHeartbeats 40000000 in
theorem rm8 (l : Launch) (Z : State) (a0 : Array Value) (hw : ∀ d ∈ tables_1, d.before a0 Z = true) (ws : List Jvm.Cond) (a1 : Addr) (hs : Int32) (at_ ah as_ ae av ar ab : Addr) (kt kh ks ke : ClassId) (h0 : Heap) (n0 : Nat) (Z0 : n0 ≤ h0.size) (E_a1 : Exa Z h0 a1 "com/example/nodal_ledger/nodalledger/csv/DistinctFields") (F_table_a1 : Fld Z h0 a1 "com/example/nodal_ledger/nodalledger/csv/DistinctFields" "table" "[I" (.ref at_)) (F_hashes_a1 : Fld Z h0 a1 "com/example/nodal_ledger/nodalledger/csv/DistinctFields" "hashes" "[I" (.ref ah)) (F_starts_a1 : Fld Z h0 a1 "com/example/nodal_ledger/nodalledger/csv/DistinctFields" "starts" "[I" (.ref as_)) (F_ends_a1 : Fld Z h0 a1 "com/example/nodal_ledger/nodalledger/csv/DistinctFields" "ends" "[I" (.ref ae)) (F_values_a1 : Fld Z h0 a1 "com/example/nodal_ledger/nodalledger/csv/DistinctFields" "values" "[Ljava/lang/Object;" (.ref av)) (F_readings_a1 : Fld Z h0 a1 "com/example/nodal_ledger/nodalledger/csv/DistinctFields" "readings" "[Ljava/lang/Object;" (.ref ar)) (F_bytes_a1 : Fld Z h0 a1 "com/example/nodal_ledger/nodalledger/csv/DistinctFields" "bytes" "[B" (.ref ab)) (F_count_a1 : Fld Z h0 a1 "com/example/nodal_ledger/nodalledger/csv/DistinctFields" "count" "I" (.int (0 : Int32))) (g_a1 : n0 ≤ a1) (A_at_ : Arf Z h0 at_ kt .int 1024 (fun _ => .int 0)) (g_at_ : n0 ≤ at_) (A_ah : Arf Z h0 ah kh .int 512 (fun _ => .int 0)) (g_ah : n0 ≤ ah) (A_as_ : Arf Z h0 as_ ks .int 512 (fun _ => .int 0)) (g_as_ : n0 ≤ as_) (A_ae : Arf Z h0 ae ke .int 512 (fun _ => .int 0)) (g_ae : n0 ≤ ae) (lc0 : Nat.succ ab ≤ a1) (lc1 : Nat.succ a1 ≤ at_) (lc2 : Nat.succ at_ ≤ ah) (lc3 : Nat.succ ah ≤ as_) (lc4 : Nat.succ as_ ≤ ae) (lc5 : Nat.succ ae ≤ av) (lc6 : Nat.succ av ≤ ar) :
    OMet l Z (⟨"com/example/nodal_ledger/nodalledger/csv/DistinctFields", "slot", "(III)I"⟩ : MethodName) prog_9_method_3_code 7 (some .int) ws ({ frames := 1, cells := 0, slots := 0, locals := 17 } : Room) #[(.ref a1), (.int (0 : Int32)), (.int (1 : Int32)), (.int hs)] h0 (own_Q_rm8 Z a1 hs at_ ah as_ ae av ar ab kt kh ks ke h0 n0) := by
  refine MetFree.of_bodySF (plainFor_of_name own_pn0) hisR ?_
  intro p e s m args below meth c s₁ Bd hml0 hP hK
  obtain ⟨rfl, hZ, hh⟩ := hP
  have hx := Bd.exec
  have hby := Bd.bytes
  have hml : c.maxLocals = 7 := hml0
  have hown : s.vm.findClass "com/example/nodal_ledger/nodalledger/csv/DistinctFields" = some m.cls := findClass_of_methodNamed Bd.named
  have hnm := (name_of_methodNamed Bd.named Bd.method).1
  have hlk : meth.locks = false := Bd.notSynchronized
  have X0 : Stand p l e ({ frames := 1, cells := 0, slots := 0, locals := 17 } : Room) s m #[(.ref a1), (.int (0 : Int32)), (.int (1 : Int32)), (.int hs)] below meth c s₁ [] 0 0 := Stand.of_body Bd
  have e0 : s₁.heap = h0 := by rw [← hh, Bd.state]; rfl
  have N0 := Fr.nil n0
  refine OGo.enter (P := OPost s (own_Q_rm8 Z a1 hs at_ ah as_ ae av ar ab kt kh ks ke h0 n0) 0 0) (own_ef_rm8 m a1 (0 : Int32) (1 : Int32) hs) ?_
  show OGo p.tables e below _ (s₁.setTop (mkF m 0 #[.val (.ref a1), .val (.int (0 : Int32)), .val (.int (1 : Int32)), .val (.int hs), .unset, .unset, .unset] []))
  refine OGo.st (fun _ k_ => XS.aloadN X0.here hx rfl (hb hby own_d_prog_9_method_3_code_0) rfl rfl k_) ?_
  show OGo p.tables e below _ (s₁.setTop (mkF m 1 #[.val (.ref a1), .val (.int (0 : Int32)), .val (.int (1 : Int32)), .val (.int hs), .unset, .unset, .unset] [(.ref a1)]))
  obtain ⟨T1, X1, ez1, st1⟩ := getF X0 hx hZ hown (host := "") (Or.inl (hw _ (List.mem_of_getElem? (i := 11) rfl))) Via.refl e0 F_table_a1 (g := (mkF m 1 #[.val (.ref a1), .val (.int (0 : Int32)), .val (.int (1 : Int32)), .val (.int hs), .unset, .unset, .unset] [(.ref a1)])) rfl rfl (hb hby own_d_prog_9_method_3_code_1)
  refine OGo.st st1 ?_
  show OGo p.tables e below _ (T1.setTop (mkF m 4 #[.val (.ref a1), .val (.int (0 : Int32)), .val (.int (1 : Int32)), .val (.int hs), .unset, .unset, .unset] [(.ref at_)]))
  have qz2 := own_alen X1 hx hZ ez1 A_at_ (g := (mkF m 4 #[.val (.ref a1), .val (.int (0 : Int32)), .val (.int (1 : Int32)), .val (.int hs), .unset, .unset, .unset] [(.ref at_)])) rfl rfl (hb hby own_d_prog_9_method_3_code_4)
  refine OGo.st qz2 ?_
  show OGo p.tables e below _ (T1.setTop (mkF m 5 #[.val (.ref a1), .val (.int (0 : Int32)), .val (.int (1 : Int32)), .val (.int hs), .unset, .unset, .unset] [(.int (1024 : Int32))]))
  refine OGo.st (fun _ k_ => XS.iconst X1.here hx rfl (hb hby own_d_prog_9_method_3_code_5) k_) ?_
  show OGo p.tables e below _ (T1.setTop (mkF m 6 #[.val (.ref a1), .val (.int (0 : Int32)), .val (.int (1 : Int32)), .val (.int hs), .unset, .unset, .unset] [(.int (1 : Int32)), (.int (1024 : Int32))]))
  refine OGo.st (fun _ k_ => XS.isub X1.here hx rfl (hb hby own_d_prog_9_method_3_code_6) rfl k_) ?_
  show OGo p.tables e below _ (T1.setTop (mkF m 7 #[.val (.ref a1), .val (.int (0 : Int32)), .val (.int (1 : Int32)), .val (.int hs), .unset, .unset, .unset] [(.int (1023 : Int32))]))
  refine OGo.st (fun _ k_ => XS.istore X1.here hx rfl (hb hby own_d_prog_9_method_3_code_7) rfl (l' := #[.val (.ref a1), .val (.int (0 : Int32)), .val (.int (1 : Int32)), .val (.int hs), .val (.int (1023 : Int32)), .unset, .unset]) rfl k_) ?_
  show OGo p.tables e below _ (T1.setTop (mkF m 9 #[.val (.ref a1), .val (.int (0 : Int32)), .val (.int (1 : Int32)), .val (.int hs), .val (.int (1023 : Int32)), .unset, .unset] []))
  refine OGo.st (fun _ k_ => XS.iloadN X1.here hx rfl (hb hby own_d_prog_9_method_3_code_9) rfl k_) ?_
  show OGo p.tables e below _ (T1.setTop (mkF m 10 #[.val (.ref a1), .val (.int (0 : Int32)), .val (.int (1 : Int32)), .val (.int hs), .val (.int (1023 : Int32)), .unset, .unset] [(.int hs)]))
  obtain ⟨_, _, ⟨T3, Lz3, kz3, nz3⟩, -, X3, ⟨Lc3, hQ3, lz3, yz3, zz3⟩, st3⟩ := Jvm.LawKit.callS X1 hx (y := (⟨"com/example/nodal_ledger/nodalledger/csv/DistinctFields", "spread", "(I)I"⟩ : MethodName)) hown (mvT hZ (hw _ (List.mem_of_getElem? (i := 40) rfl))) (mvT hZ (hw _ (List.mem_of_getElem? (i := 41) rfl))) (mvT hZ (hw _ (List.mem_of_getElem? (i := 3) rfl))) (mvT hZ (hw _ (List.mem_of_getElem? (i := 42) rfl))) (by decide) (backOf (W := 0) (rm2 l Z a0 hw [] hs h0 n0 (Nat.le_trans Z0 (Keep.refl h0 [a1, at_, ah, as_, ae]).1) ) hZ (hw _ (List.mem_of_getElem? (i := 42) rfl)) (hw _ (List.mem_of_getElem? (i := 3) rfl)) (by decide) (by decide)) (g := (mkF m 10 #[.val (.ref a1), .val (.int (0 : Int32)), .val (.int (1 : Int32)), .val (.int hs), .val (.int (1023 : Int32)), .unset, .unset] [(.int hs)])) rfl (by rw [hml]; rfl) (argsL := [(.int hs)]) (rest := []) (lenOf own_pd2 rfl) rfl (by show 2 * 0 + _ ≤ _; exact Nat.le_of_eq rfl) (hb hby own_d_prog_9_method_3_code_10) (fun _ _ => ⟨rfl, ez1, (by decide : 0 + 0 ≤ _), (by decide : 0 + 0 ≤ _)⟩)
  dsimp only [Pt.U, Pt.locs, Pt.cells, Pt.slots] at X3 lz3 yz3 zz3 st3 hQ3
  subst lz3 yz3 zz3
  obtain ⟨rfl, Nq3, ez3⟩ := hQ3
  have N3 := Fr.app N0 Nq3
  refine OGo.st st3 ?_
  show OGo p.tables e below _ (T3.setTop (mkF m 13 #[.val (.ref a1), .val (.int (0 : Int32)), .val (.int (1 : Int32)), .val (.int hs), .val (.int (1023 : Int32)), .unset, .unset] [(.int (own_sp hs))]))
  refine OGo.st (fun _ k_ => XS.iload X3.here hx rfl (hb hby own_d_prog_9_method_3_code_13) rfl k_) ?_
  show OGo p.tables e below _ (T3.setTop (mkF m 15 #[.val (.ref a1), .val (.int (0 : Int32)), .val (.int (1 : Int32)), .val (.int hs), .val (.int (1023 : Int32)), .unset, .unset] [(.int (1023 : Int32)), (.int (own_sp hs))]))
  refine OGo.st (fun _ k_ => XS.iand X3.here hx rfl (hb hby own_d_prog_9_method_3_code_15) rfl k_) ?_
  show OGo p.tables e below _ (T3.setTop (mkF m 16 #[.val (.ref a1), .val (.int (0 : Int32)), .val (.int (1 : Int32)), .val (.int hs), .val (.int (1023 : Int32)), .unset, .unset] [(.int ((own_sp hs) &&& (1023 : Int32)))]))
  refine OGo.st (fun _ k_ => XS.istore X3.here hx rfl (hb hby own_d_prog_9_method_3_code_16) rfl (l' := #[.val (.ref a1), .val (.int (0 : Int32)), .val (.int (1 : Int32)), .val (.int hs), .val (.int (1023 : Int32)), .val (.int ((own_sp hs) &&& (1023 : Int32))), .unset]) rfl k_) ?_
  show OGo p.tables e below _ (T3.setTop (mkF m 18 #[.val (.ref a1), .val (.int (0 : Int32)), .val (.int (1 : Int32)), .val (.int hs), .val (.int (1023 : Int32)), .val (.int ((own_sp hs) &&& (1023 : Int32))), .unset] []))
  refine OGo.st (fun _ k_ => XS.aloadN X3.here hx rfl (hb hby own_d_prog_9_method_3_code_18) rfl rfl k_) ?_
  show OGo p.tables e below _ (T3.setTop (mkF m 19 #[.val (.ref a1), .val (.int (0 : Int32)), .val (.int (1 : Int32)), .val (.int hs), .val (.int (1023 : Int32)), .val (.int ((own_sp hs) &&& (1023 : Int32))), .unset] [(.ref a1)]))
  obtain ⟨T4, X4, ez4, st4⟩ := getF X3 hx hZ hown (host := "") (Or.inl (hw _ (List.mem_of_getElem? (i := 11) rfl))) Via.refl ez3 F_table_a1 (g := (mkF m 19 #[.val (.ref a1), .val (.int (0 : Int32)), .val (.int (1 : Int32)), .val (.int hs), .val (.int (1023 : Int32)), .val (.int ((own_sp hs) &&& (1023 : Int32))), .unset] [(.ref a1)])) rfl rfl (hb hby own_d_prog_9_method_3_code_19)
  refine OGo.st st4 ?_
  show OGo p.tables e below _ (T4.setTop (mkF m 22 #[.val (.ref a1), .val (.int (0 : Int32)), .val (.int (1 : Int32)), .val (.int hs), .val (.int (1023 : Int32)), .val (.int ((own_sp hs) &&& (1023 : Int32))), .unset] [(.ref at_)]))
  refine OGo.st (fun _ k_ => XS.iload X4.here hx rfl (hb hby own_d_prog_9_method_3_code_22) rfl k_) ?_
  show OGo p.tables e below _ (T4.setTop (mkF m 24 #[.val (.ref a1), .val (.int (0 : Int32)), .val (.int (1 : Int32)), .val (.int hs), .val (.int (1023 : Int32)), .val (.int ((own_sp hs) &&& (1023 : Int32))), .unset] [(.int ((own_sp hs) &&& (1023 : Int32))), (.ref at_)]))
  have qz5 := own_ldI X4 hx hZ ez4 A_at_ (j := ((own_sp hs) &&& (1023 : Int32))) (v := (0 : Int32)) (own_spin _) rfl (g := (mkF m 24 #[.val (.ref a1), .val (.int (0 : Int32)), .val (.int (1 : Int32)), .val (.int hs), .val (.int (1023 : Int32)), .val (.int ((own_sp hs) &&& (1023 : Int32))), .unset] [(.int ((own_sp hs) &&& (1023 : Int32))), (.ref at_)])) rfl rfl (hb hby own_d_prog_9_method_3_code_24)
  refine OGo.st qz5 ?_
  show OGo p.tables e below _ (T4.setTop (mkF m 25 #[.val (.ref a1), .val (.int (0 : Int32)), .val (.int (1 : Int32)), .val (.int hs), .val (.int (1023 : Int32)), .val (.int ((own_sp hs) &&& (1023 : Int32))), .unset] [(.int (0 : Int32))]))
  refine OGo.st (fun _ k_ => XS.ifYes X4.here hx rfl (pc0 := 25) (pc' := 95) rfl (hb hby own_d_prog_9_method_3_code_25) rfl (XT.i0_eq_t rfl) (by decide) (by decide) k_) ?_
  show OGo p.tables e below _ (T4.setTop (mkF m 95 #[.val (.ref a1), .val (.int (0 : Int32)), .val (.int (1 : Int32)), .val (.int hs), .val (.int (1023 : Int32)), .val (.int ((own_sp hs) &&& (1023 : Int32))), .unset] []))
  refine OGo.st (fun _ k_ => XS.aloadN X4.here hx rfl (hb hby own_d_prog_9_method_3_code_95) rfl rfl k_) ?_
  show OGo p.tables e below _ (T4.setTop (mkF m 96 #[.val (.ref a1), .val (.int (0 : Int32)), .val (.int (1 : Int32)), .val (.int hs), .val (.int (1023 : Int32)), .val (.int ((own_sp hs) &&& (1023 : Int32))), .unset] [(.ref a1)]))
  refine OGo.st (fun _ k_ => XS.iloadN X4.here hx rfl (hb hby own_d_prog_9_method_3_code_96) rfl k_) ?_
  show OGo p.tables e below _ (T4.setTop (mkF m 97 #[.val (.ref a1), .val (.int (0 : Int32)), .val (.int (1 : Int32)), .val (.int hs), .val (.int (1023 : Int32)), .val (.int ((own_sp hs) &&& (1023 : Int32))), .unset] [(.int (0 : Int32)), (.ref a1)]))
  refine OGo.st (fun _ k_ => XS.iloadN X4.here hx rfl (hb hby own_d_prog_9_method_3_code_97) rfl k_) ?_
  show OGo p.tables e below _ (T4.setTop (mkF m 98 #[.val (.ref a1), .val (.int (0 : Int32)), .val (.int (1 : Int32)), .val (.int hs), .val (.int (1023 : Int32)), .val (.int ((own_sp hs) &&& (1023 : Int32))), .unset] [(.int (1 : Int32)), (.int (0 : Int32)), (.ref a1)]))
  refine OGo.st (fun _ k_ => XS.iloadN X4.here hx rfl (hb hby own_d_prog_9_method_3_code_98) rfl k_) ?_
  show OGo p.tables e below _ (T4.setTop (mkF m 99 #[.val (.ref a1), .val (.int (0 : Int32)), .val (.int (1 : Int32)), .val (.int hs), .val (.int (1023 : Int32)), .val (.int ((own_sp hs) &&& (1023 : Int32))), .unset] [(.int hs), (.int (1 : Int32)), (.int (0 : Int32)), (.ref a1)]))
  refine OGo.st (fun _ k_ => XS.iload X4.here hx rfl (hb hby own_d_prog_9_method_3_code_99) rfl k_) ?_
  show OGo p.tables e below _ (T4.setTop (mkF m 101 #[.val (.ref a1), .val (.int (0 : Int32)), .val (.int (1 : Int32)), .val (.int hs), .val (.int (1023 : Int32)), .val (.int ((own_sp hs) &&& (1023 : Int32))), .unset] [(.int ((own_sp hs) &&& (1023 : Int32))), (.int hs), (.int (1 : Int32)), (.int (0 : Int32)), (.ref a1)]))
  obtain ⟨cq6, qz6, qz6b⟩ := E_a1.cell
  obtain ⟨_, _, ⟨T6, Lz6, kz6, nz6⟩, -, X6, ⟨Lc6, hQ6, lz6, yz6, zz6⟩, st6⟩ := X4.privateBack hx (y := (⟨"com/example/nodal_ledger/nodalledger/csv/DistinctFields", "added", "(IIII)I"⟩ : MethodName)) hown (mvT hZ (hw _ (List.mem_of_getElem? (i := 43) rfl))) (mvT hZ (hw _ (List.mem_of_getElem? (i := 44) rfl))) (mvT hZ (own_sel0 Z a0 hw)) (Cond.privateMethod_at (mvP hZ (hw _ (List.mem_of_getElem? (i := 45) rfl)) (args := #[]))) (mvT hZ (hw _ (List.mem_of_getElem? (i := 46) rfl))) (by decide) (backOf (W := 0) (rm3 l Z a0 hw [] a1 (0 : Int32) (1 : Int32) hs ((own_sp hs) &&& (1023 : Int32)) at_ ah as_ ae av ar ab kt kh ks ke (fun _ => .int 0) (fun _ => .int 0) (fun _ => .int 0) (fun _ => .int 0) h0 n0 (Nat.le_trans Z0 (Keep.refl h0 [a1, at_, ah, as_, ae]).1) E_a1 F_table_a1 F_hashes_a1 F_starts_a1 F_ends_a1 F_values_a1 F_readings_a1 F_bytes_a1 F_count_a1 g_a1 A_at_ g_at_ A_ah g_ah A_as_ g_as_ A_ae g_ae (by omega) (by omega) (by omega) (by omega) (by omega) (by omega) (by omega) (own_spin _)) hZ (hw _ (List.mem_of_getElem? (i := 46) rfl)) (hw _ (List.mem_of_getElem? (i := 3) rfl)) (by decide) (by decide)) (g := (mkF m 101 #[.val (.ref a1), .val (.int (0 : Int32)), .val (.int (1 : Int32)), .val (.int hs), .val (.int (1023 : Int32)), .val (.int ((own_sp hs) &&& (1023 : Int32))), .unset] [(.int ((own_sp hs) &&& (1023 : Int32))), (.int hs), (.int (1 : Int32)), (.int (0 : Int32)), (.ref a1)])) rfl (by rw [hml]; rfl) (Steps.refl _) (a := a1) (by rw [ez4]; exact qz6) qz6b (argsL := [(.int (0 : Int32)), (.int (1 : Int32)), (.int hs), (.int ((own_sp hs) &&& (1023 : Int32)))]) (rest := []) (lenOf own_pd3 rfl) rfl (by show 2 * 0 + _ ≤ _; exact Nat.le_of_eq rfl) (hb hby own_d_prog_9_method_3_code_101) (fun _ _ => ⟨rfl, ez4, (by decide : 0 + 0 ≤ _), (by decide : 0 + 0 ≤ _)⟩)
  dsimp only [Pt.U, Pt.locs, Pt.cells, Pt.slots] at X6 lz6 yz6 zz6 st6 hQ6
  subst lz6 yz6 zz6
  obtain ⟨rfl, Nq6, Kq6, ff6_0, ff6_1, ff6_2, ff6_3, ff6_4, ff6_5, ff6_6, ff6_7, ff6_8, ff6_9, ff6_10, ff6_11⟩ := hQ6
  have N6 := Fr.app N3 Nq6
  have Ex_7 := E_a1.keep Kq6
  have K_8 : Keep h0 T6.heap [a1, at_, ah, as_, ae] := (Keep.refl h0 [a1, at_, ah, as_, ae]).trans Kq6 (allS (Or.inl (List.mem_of_getElem? (i := 0) rfl)) (allS (Or.inl (List.mem_of_getElem? (i := 1) rfl)) (allS (Or.inl (List.mem_of_getElem? (i := 2) rfl)) (allS (Or.inl (List.mem_of_getElem? (i := 3) rfl)) (allS (Or.inl (List.mem_of_getElem? (i := 4) rfl)) all0)))))
  refine OGo.tr st6 ?_
  show OGo p.tables e below _ (T6.setTop (mkF m 104 #[.val (.ref a1), .val (.int (0 : Int32)), .val (.int (1 : Int32)), .val (.int hs), .val (.int (1023 : Int32)), .val (.int ((own_sp hs) &&& (1023 : Int32))), .unset] [(.int (0 : Int32))]))
  refine OGo.fin X6 (v := some (.int (0 : Int32))) (fun h => by rw [Bd.returns] at h; cases h) hlk (fun fs hr => X6.ireturnOut hx Bd.returns rfl (Or.inl rfl) (hb hby own_d_prog_9_method_3_code_104) hr) ?_ (by decide) (by decide)
  show own_Q_rm8 Z a1 hs at_ ah as_ ae av ar ab kt kh ks ke h0 n0 _ T6.heap _
  skip
  exact ⟨rfl, N6, K_8, ff6_0, ff6_1, ff6_2, ff6_3, ff6_4, ff6_5, ff6_6, ff6_7, ff6_8, ff6_9, ff6_10, ff6_11⟩
theorem own_d_prog_9_method_3_code_28 : decode prog_9_method_3_code 28 = .ok (.aload_n 0, 1) := by decide +kernel
theorem own_d_prog_9_method_3_code_29 : decode prog_9_method_3_code 29 = .ok (.getfield 9, 3) := by decide +kernel
theorem own_d_prog_9_method_3_code_32 : decode prog_9_method_3_code 32 = .ok (.iload 5, 2) := by decide +kernel
theorem own_d_prog_9_method_3_code_34 : decode prog_9_method_3_code 34 = .ok (.iaload, 1) := by decide +kernel
theorem own_d_prog_9_method_3_code_35 : decode prog_9_method_3_code 35 = .ok (.iconst 1, 1) := by decide +kernel
theorem own_d_prog_9_method_3_code_36 : decode prog_9_method_3_code 36 = .ok (.isub, 1) := by decide +kernel
theorem own_d_prog_9_method_3_code_37 : decode prog_9_method_3_code 37 = .ok (.istore 6, 2) := by decide +kernel
theorem own_d_prog_9_method_3_code_39 : decode prog_9_method_3_code 39 = .ok (.aload_n 0, 1) := by decide +kernel
theorem own_d_prog_9_method_3_code_40 : decode prog_9_method_3_code 40 = .ok (.getfield 13, 3) := by decide +kernel
theorem own_d_prog_9_method_3_code_43 : decode prog_9_method_3_code 43 = .ok (.iload 6, 2) := by decide +kernel
theorem own_d_prog_9_method_3_code_45 : decode prog_9_method_3_code 45 = .ok (.iaload, 1) := by decide +kernel
theorem own_d_prog_9_method_3_code_46 : decode prog_9_method_3_code 46 = .ok (.iload_n 3, 1) := by decide +kernel
theorem own_d_prog_9_method_3_code_47 : decode prog_9_method_3_code 47 = .ok (.if_icmp .ne 36, 3) := by decide +kernel
theorem own_d_prog_9_method_3_code_50 : decode prog_9_method_3_code 50 = .ok (.aload_n 0, 1) := by decide +kernel
theorem own_d_prog_9_method_3_code_51 : decode prog_9_method_3_code 51 = .ok (.getfield 35, 3) := by decide +kernel
theorem own_d_prog_9_method_3_code_54 : decode prog_9_method_3_code 54 = .ok (.aload_n 0, 1) := by decide +kernel
theorem own_d_prog_9_method_3_code_55 : decode prog_9_method_3_code 55 = .ok (.getfield 16, 3) := by decide +kernel
theorem own_d_prog_9_method_3_code_58 : decode prog_9_method_3_code 58 = .ok (.iload 6, 2) := by decide +kernel
theorem own_d_prog_9_method_3_code_60 : decode prog_9_method_3_code 60 = .ok (.iaload, 1) := by decide +kernel
theorem own_d_prog_9_method_3_code_61 : decode prog_9_method_3_code 61 = .ok (.aload_n 0, 1) := by decide +kernel
theorem own_d_prog_9_method_3_code_62 : decode prog_9_method_3_code 62 = .ok (.getfield 19, 3) := by decide +kernel
theorem own_d_prog_9_method_3_code_65 : decode prog_9_method_3_code 65 = .ok (.iload 6, 2) := by decide +kernel
theorem own_d_prog_9_method_3_code_67 : decode prog_9_method_3_code 67 = .ok (.iaload, 1) := by decide +kernel
theorem own_d_prog_9_method_3_code_68 : decode prog_9_method_3_code 68 = .ok (.aload_n 0, 1) := by decide +kernel
theorem own_d_prog_9_method_3_code_69 : decode prog_9_method_3_code 69 = .ok (.getfield 35, 3) := by decide +kernel
theorem own_d_prog_9_method_3_code_72 : decode prog_9_method_3_code 72 = .ok (.iload_n 1, 1) := by decide +kernel
theorem own_d_prog_9_method_3_code_73 : decode prog_9_method_3_code 73 = .ok (.iload_n 2, 1) := by decide +kernel
theorem own_d_prog_9_method_3_code_74 : decode prog_9_method_3_code 74 = .ok (.invokestatic 47, 3) := by decide +kernel
theorem own_pd4 : parseMethodDescriptor "([BII[BII)Z" = some ⟨[(.array .byte), .int, .int, (.array .byte), .int, .int], some .boolean⟩ := by decide +kernel
theorem own_d_prog_9_method_3_code_77 : decode prog_9_method_3_code 77 = .ok (.ifCond .eq 6, 3) := by decide +kernel
theorem own_d_prog_9_method_3_code_80 : decode prog_9_method_3_code 80 = .ok (.iload 6, 2) := by decide +kernel
theorem own_d_prog_9_method_3_code_82 : decode prog_9_method_3_code 82 = .ok (.ireturn, 1) := by decide +kernel
theorem own_d_prog_9_method_3_code_83 : decode prog_9_method_3_code 83 = .ok (.iload 5, 2) := by decide +kernel
theorem own_d_prog_9_method_3_code_85 : decode prog_9_method_3_code 85 = .ok (.iconst 1, 1) := by decide +kernel
theorem own_d_prog_9_method_3_code_86 : decode prog_9_method_3_code 86 = .ok (.iadd, 1) := by decide +kernel
theorem own_d_prog_9_method_3_code_87 : decode prog_9_method_3_code 87 = .ok (.iload 4, 2) := by decide +kernel
theorem own_d_prog_9_method_3_code_89 : decode prog_9_method_3_code 89 = .ok (.iand, 1) := by decide +kernel
theorem own_d_prog_9_method_3_code_90 : decode prog_9_method_3_code 90 = .ok (.istore 5, 2) := by decide +kernel
theorem own_d_prog_9_method_3_code_92 : decode prog_9_method_3_code 92 = .ok (.goto (-74), 3) := by decide +kernel
theorem own_ef_rm9 (m : MethodId) (x0 : Addr) (x1 : Int32) (x2 : Int32) (x3 : Int32) : entryFrame m #[(.ref x0), (.int x1), (.int x2), (.int x3)] 7 = mkF m 0 #[.val (.ref x0), .val (.int x1), .val (.int x2), .val (.int x3), .unset, .unset, .unset] [] := by first | (simp [entryFrame, mkF, argsToLocals, Value.category]; done) | rfl
def own_Q_rm9 (Z : State) (a1 : Addr) (b0 b1 : Int32) (at_ ah as_ ae av ar ab : Addr) (kt kh ks ke kb : ClassId) (h0 : Heap) (n0 : Nat) (v : Option Value) (h : Heap) (L : List Loc) : Prop := ∃ s1 : Int32, v = some (.int s1) ∧ (s1 = 0 ∨ s1 = 1) ∧ Fr n0 L ∧ Keep h0 h [a1, at_, ah, as_, ae] ∧ Fld Z h a1 "com/example/nodal_ledger/nodalledger/csv/DistinctFields" "table" "[I" (.ref at_) ∧ Fld Z h a1 "com/example/nodal_ledger/nodalledger/csv/DistinctFields" "hashes" "[I" (.ref ah) ∧ Fld Z h a1 "com/example/nodal_ledger/nodalledger/csv/DistinctFields" "starts" "[I" (.ref as_) ∧ Fld Z h a1 "com/example/nodal_ledger/nodalledger/csv/DistinctFields" "ends" "[I" (.ref ae) ∧ Fld Z h a1 "com/example/nodal_ledger/nodalledger/csv/DistinctFields" "values" "[Ljava/lang/Object;" (.ref av) ∧ Fld Z h a1 "com/example/nodal_ledger/nodalledger/csv/DistinctFields" "readings" "[Ljava/lang/Object;" (.ref ar) ∧ Fld Z h a1 "com/example/nodal_ledger/nodalledger/csv/DistinctFields" "bytes" "[B" (.ref ab)
set_option maxRecDepth 65536 in
set_option maxHeartbeats 40000000 in
theorem rm9 (l : Launch) (Z : State) (a0 : Array Value) (hw : ∀ d ∈ tables_1, d.before a0 Z = true) (ws : List Jvm.Cond) (a1 : Addr) (b0 b1 : Int32) (at_ ah as_ ae av ar ab : Addr) (kt kh ks ke kb : ClassId) (h0 : Heap) (n0 : Nat) (Z0 : n0 ≤ h0.size) (E_a1 : Exa Z h0 a1 "com/example/nodal_ledger/nodalledger/csv/DistinctFields") (F_table_a1 : Fld Z h0 a1 "com/example/nodal_ledger/nodalledger/csv/DistinctFields" "table" "[I" (.ref at_)) (F_hashes_a1 : Fld Z h0 a1 "com/example/nodal_ledger/nodalledger/csv/DistinctFields" "hashes" "[I" (.ref ah)) (F_starts_a1 : Fld Z h0 a1 "com/example/nodal_ledger/nodalledger/csv/DistinctFields" "starts" "[I" (.ref as_)) (F_ends_a1 : Fld Z h0 a1 "com/example/nodal_ledger/nodalledger/csv/DistinctFields" "ends" "[I" (.ref ae)) (F_values_a1 : Fld Z h0 a1 "com/example/nodal_ledger/nodalledger/csv/DistinctFields" "values" "[Ljava/lang/Object;" (.ref av)) (F_readings_a1 : Fld Z h0 a1 "com/example/nodal_ledger/nodalledger/csv/DistinctFields" "readings" "[Ljava/lang/Object;" (.ref ar)) (F_bytes_a1 : Fld Z h0 a1 "com/example/nodal_ledger/nodalledger/csv/DistinctFields" "bytes" "[B" (.ref ab)) (F_count_a1 : Fld Z h0 a1 "com/example/nodal_ledger/nodalledger/csv/DistinctFields" "count" "I" (.int (1 : Int32))) (g_a1 : n0 ≤ a1) (A_at_ : Arf Z h0 at_ kt .int 1024 (own_upd (fun _ => .int 0) (own_sp (own_hb b0) &&& (1023 : Int32)).toNatClampNeg (.int (1 : Int32)))) (g_at_ : n0 ≤ at_) (A_ah : Arf Z h0 ah kh .int 512 (own_upd (fun _ => .int 0) (0 : Int32).toNatClampNeg (.int (own_hb b0)))) (g_ah : n0 ≤ ah) (A_as_ : Arf Z h0 as_ ks .int 512 (own_upd (fun _ => .int 0) (0 : Int32).toNatClampNeg (.int (0 : Int32)))) (g_as_ : n0 ≤ as_) (A_ae : Arf Z h0 ae ke .int 512 (own_upd (fun _ => .int 0) (0 : Int32).toNatClampNeg (.int (1 : Int32)))) (g_ae : n0 ≤ ae) (A_ab : Arf Z h0 ab kb .byte 2 (own_B b0 b1)) (lc0 : Nat.succ ab ≤ a1) (lc1 : Nat.succ a1 ≤ at_) (lc2 : Nat.succ at_ ≤ ah) (lc3 : Nat.succ ah ≤ as_) (lc4 : Nat.succ as_ ≤ ae) (lc5 : Nat.succ ae ≤ av) (lc6 : Nat.succ av ≤ ar) :
    OMet l Z (⟨"com/example/nodal_ledger/nodalledger/csv/DistinctFields", "slot", "(III)I"⟩ : MethodName) prog_9_method_3_code 7 (some .int) ws ({ frames := 2, cells := 0, slots := 0, locals := 38 } : Room) #[(.ref a1), (.int (1 : Int32)), (.int (2 : Int32)), (.int (own_hb b1))] h0 (own_Q_rm9 Z a1 b0 b1 at_ ah as_ ae av ar ab kt kh ks ke kb h0 n0) := by
  refine MetFree.of_bodySF (plainFor_of_name own_pn0) hisR ?_
  intro p e s m args below meth c s₁ Bd hml0 hP hK
  obtain ⟨rfl, hZ, hh⟩ := hP
  have hx := Bd.exec
  have hby := Bd.bytes
  have hml : c.maxLocals = 7 := hml0
  have hown : s.vm.findClass "com/example/nodal_ledger/nodalledger/csv/DistinctFields" = some m.cls := findClass_of_methodNamed Bd.named
  have hnm := (name_of_methodNamed Bd.named Bd.method).1
  have hlk : meth.locks = false := Bd.notSynchronized
  have X0 : Stand p l e ({ frames := 2, cells := 0, slots := 0, locals := 38 } : Room) s m #[(.ref a1), (.int (1 : Int32)), (.int (2 : Int32)), (.int (own_hb b1))] below meth c s₁ [] 0 0 := Stand.of_body Bd
  have e0 : s₁.heap = h0 := by rw [← hh, Bd.state]; rfl
  have N0 := Fr.nil n0
  refine OGo.enter (P := OPost s (own_Q_rm9 Z a1 b0 b1 at_ ah as_ ae av ar ab kt kh ks ke kb h0 n0) 0 0) (own_ef_rm9 m a1 (1 : Int32) (2 : Int32) (own_hb b1)) ?_
  show OGo p.tables e below _ (s₁.setTop (mkF m 0 #[.val (.ref a1), .val (.int (1 : Int32)), .val (.int (2 : Int32)), .val (.int (own_hb b1)), .unset, .unset, .unset] []))
  refine OGo.st (fun _ k_ => XS.aloadN X0.here hx rfl (hb hby own_d_prog_9_method_3_code_0) rfl rfl k_) ?_
  show OGo p.tables e below _ (s₁.setTop (mkF m 1 #[.val (.ref a1), .val (.int (1 : Int32)), .val (.int (2 : Int32)), .val (.int (own_hb b1)), .unset, .unset, .unset] [(.ref a1)]))
  obtain ⟨T1, X1, ez1, st1⟩ := getF X0 hx hZ hown (host := "") (Or.inl (hw _ (List.mem_of_getElem? (i := 11) rfl))) Via.refl e0 F_table_a1 (g := (mkF m 1 #[.val (.ref a1), .val (.int (1 : Int32)), .val (.int (2 : Int32)), .val (.int (own_hb b1)), .unset, .unset, .unset] [(.ref a1)])) rfl rfl (hb hby own_d_prog_9_method_3_code_1)
  refine OGo.st st1 ?_
  show OGo p.tables e below _ (T1.setTop (mkF m 4 #[.val (.ref a1), .val (.int (1 : Int32)), .val (.int (2 : Int32)), .val (.int (own_hb b1)), .unset, .unset, .unset] [(.ref at_)]))
  have qz2 := own_alen X1 hx hZ ez1 A_at_ (g := (mkF m 4 #[.val (.ref a1), .val (.int (1 : Int32)), .val (.int (2 : Int32)), .val (.int (own_hb b1)), .unset, .unset, .unset] [(.ref at_)])) rfl rfl (hb hby own_d_prog_9_method_3_code_4)
  refine OGo.st qz2 ?_
  show OGo p.tables e below _ (T1.setTop (mkF m 5 #[.val (.ref a1), .val (.int (1 : Int32)), .val (.int (2 : Int32)), .val (.int (own_hb b1)), .unset, .unset, .unset] [(.int (1024 : Int32))]))
  refine OGo.st (fun _ k_ => XS.iconst X1.here hx rfl (hb hby own_d_prog_9_method_3_code_5) k_) ?_
  show OGo p.tables e below _ (T1.setTop (mkF m 6 #[.val (.ref a1), .val (.int (1 : Int32)), .val (.int (2 : Int32)), .val (.int (own_hb b1)), .unset, .unset, .unset] [(.int (1 : Int32)), (.int (1024 : Int32))]))
  refine OGo.st (fun _ k_ => XS.isub X1.here hx rfl (hb hby own_d_prog_9_method_3_code_6) rfl k_) ?_
  show OGo p.tables e below _ (T1.setTop (mkF m 7 #[.val (.ref a1), .val (.int (1 : Int32)), .val (.int (2 : Int32)), .val (.int (own_hb b1)), .unset, .unset, .unset] [(.int (1023 : Int32))]))
  refine OGo.st (fun _ k_ => XS.istore X1.here hx rfl (hb hby own_d_prog_9_method_3_code_7) rfl (l' := #[.val (.ref a1), .val (.int (1 : Int32)), .val (.int (2 : Int32)), .val (.int (own_hb b1)), .val (.int (1023 : Int32)), .unset, .unset]) rfl k_) ?_
  show OGo p.tables e below _ (T1.setTop (mkF m 9 #[.val (.ref a1), .val (.int (1 : Int32)), .val (.int (2 : Int32)), .val (.int (own_hb b1)), .val (.int (1023 : Int32)), .unset, .unset] []))
  refine OGo.st (fun _ k_ => XS.iloadN X1.here hx rfl (hb hby own_d_prog_9_method_3_code_9) rfl k_) ?_
  show OGo p.tables e below _ (T1.setTop (mkF m 10 #[.val (.ref a1), .val (.int (1 : Int32)), .val (.int (2 : Int32)), .val (.int (own_hb b1)), .val (.int (1023 : Int32)), .unset, .unset] [(.int (own_hb b1))]))
  obtain ⟨_, _, ⟨T3, Lz3, kz3, nz3⟩, -, X3, ⟨Lc3, hQ3, lz3, yz3, zz3⟩, st3⟩ := Jvm.LawKit.callS X1 hx (y := (⟨"com/example/nodal_ledger/nodalledger/csv/DistinctFields", "spread", "(I)I"⟩ : MethodName)) hown (mvT hZ (hw _ (List.mem_of_getElem? (i := 40) rfl))) (mvT hZ (hw _ (List.mem_of_getElem? (i := 41) rfl))) (mvT hZ (hw _ (List.mem_of_getElem? (i := 3) rfl))) (mvT hZ (hw _ (List.mem_of_getElem? (i := 42) rfl))) (by decide) (backOf (W := 0) (rm2 l Z a0 hw [] (own_hb b1) h0 n0 (Nat.le_trans Z0 (Keep.refl h0 [a1, at_, ah, as_, ae]).1) ) hZ (hw _ (List.mem_of_getElem? (i := 42) rfl)) (hw _ (List.mem_of_getElem? (i := 3) rfl)) (by decide) (by decide)) (g := (mkF m 10 #[.val (.ref a1), .val (.int (1 : Int32)), .val (.int (2 : Int32)), .val (.int (own_hb b1)), .val (.int (1023 : Int32)), .unset, .unset] [(.int (own_hb b1))])) rfl (by rw [hml]; rfl) (argsL := [(.int (own_hb b1))]) (rest := []) (lenOf own_pd2 rfl) rfl (by show 2 * 0 + _ ≤ _; exact Nat.le_of_eq rfl) (hb hby own_d_prog_9_method_3_code_10) (fun _ _ => ⟨rfl, ez1, (by decide : 0 + 0 ≤ _), (by decide : 0 + 0 ≤ _)⟩)
  dsimp only [Pt.U, Pt.locs, Pt.cells, Pt.slots] at X3 lz3 yz3 zz3 st3 hQ3
  subst lz3 yz3 zz3
  obtain ⟨rfl, Nq3, ez3⟩ := hQ3
  have N3 := Fr.app N0 Nq3
  refine OGo.st st3 ?_
  show OGo p.tables e below _ (T3.setTop (mkF m 13 #[.val (.ref a1), .val (.int (1 : Int32)), .val (.int (2 : Int32)), .val (.int (own_hb b1)), .val (.int (1023 : Int32)), .unset, .unset] [(.int (own_sp (own_hb b1)))]))
  refine OGo.st (fun _ k_ => XS.iload X3.here hx rfl (hb hby own_d_prog_9_method_3_code_13) rfl k_) ?_
  show OGo p.tables e below _ (T3.setTop (mkF m 15 #[.val (.ref a1), .val (.int (1 : Int32)), .val (.int (2 : Int32)), .val (.int (own_hb b1)), .val (.int (1023 : Int32)), .unset, .unset] [(.int (1023 : Int32)), (.int (own_sp (own_hb b1)))]))
  refine OGo.st (fun _ k_ => XS.iand X3.here hx rfl (hb hby own_d_prog_9_method_3_code_15) rfl k_) ?_
  show OGo p.tables e below _ (T3.setTop (mkF m 16 #[.val (.ref a1), .val (.int (1 : Int32)), .val (.int (2 : Int32)), .val (.int (own_hb b1)), .val (.int (1023 : Int32)), .unset, .unset] [(.int ((own_sp (own_hb b1)) &&& (1023 : Int32)))]))
  refine OGo.st (fun _ k_ => XS.istore X3.here hx rfl (hb hby own_d_prog_9_method_3_code_16) rfl (l' := #[.val (.ref a1), .val (.int (1 : Int32)), .val (.int (2 : Int32)), .val (.int (own_hb b1)), .val (.int (1023 : Int32)), .val (.int ((own_sp (own_hb b1)) &&& (1023 : Int32))), .unset]) rfl k_) ?_
  show OGo p.tables e below _ (T3.setTop (mkF m 18 #[.val (.ref a1), .val (.int (1 : Int32)), .val (.int (2 : Int32)), .val (.int (own_hb b1)), .val (.int (1023 : Int32)), .val (.int ((own_sp (own_hb b1)) &&& (1023 : Int32))), .unset] []))
  refine OGo.st (fun _ k_ => XS.aloadN X3.here hx rfl (hb hby own_d_prog_9_method_3_code_18) rfl rfl k_) ?_
  show OGo p.tables e below _ (T3.setTop (mkF m 19 #[.val (.ref a1), .val (.int (1 : Int32)), .val (.int (2 : Int32)), .val (.int (own_hb b1)), .val (.int (1023 : Int32)), .val (.int ((own_sp (own_hb b1)) &&& (1023 : Int32))), .unset] [(.ref a1)]))
  obtain ⟨T4, X4, ez4, st4⟩ := getF X3 hx hZ hown (host := "") (Or.inl (hw _ (List.mem_of_getElem? (i := 11) rfl))) Via.refl ez3 F_table_a1 (g := (mkF m 19 #[.val (.ref a1), .val (.int (1 : Int32)), .val (.int (2 : Int32)), .val (.int (own_hb b1)), .val (.int (1023 : Int32)), .val (.int ((own_sp (own_hb b1)) &&& (1023 : Int32))), .unset] [(.ref a1)])) rfl rfl (hb hby own_d_prog_9_method_3_code_19)
  refine OGo.st st4 ?_
  show OGo p.tables e below _ (T4.setTop (mkF m 22 #[.val (.ref a1), .val (.int (1 : Int32)), .val (.int (2 : Int32)), .val (.int (own_hb b1)), .val (.int (1023 : Int32)), .val (.int ((own_sp (own_hb b1)) &&& (1023 : Int32))), .unset] [(.ref at_)]))
  refine OGo.st (fun _ k_ => XS.iload X4.here hx rfl (hb hby own_d_prog_9_method_3_code_22) rfl k_) ?_
  by_cases hcol : ((own_sp (own_hb b1)) &&& (1023 : Int32)).toNatClampNeg = (own_sp (own_hb b0) &&& (1023 : Int32)).toNatClampNeg
  · skip
    show OGo p.tables e below _ (T4.setTop (mkF m 24 #[.val (.ref a1), .val (.int (1 : Int32)), .val (.int (2 : Int32)), .val (.int (own_hb b1)), .val (.int (1023 : Int32)), .val (.int ((own_sp (own_hb b1)) &&& (1023 : Int32))), .unset] [(.int ((own_sp (own_hb b1)) &&& (1023 : Int32))), (.ref at_)]))
    have qz5 := own_ldI X4 hx hZ ez4 A_at_ (j := ((own_sp (own_hb b1)) &&& (1023 : Int32))) (v := (1 : Int32)) (own_spin _) (own_upd_hit hcol) (g := (mkF m 24 #[.val (.ref a1), .val (.int (1 : Int32)), .val (.int (2 : Int32)), .val (.int (own_hb b1)), .val (.int (1023 : Int32)), .val (.int ((own_sp (own_hb b1)) &&& (1023 : Int32))), .unset] [(.int ((own_sp (own_hb b1)) &&& (1023 : Int32))), (.ref at_)])) rfl rfl (hb hby own_d_prog_9_method_3_code_24)
    refine OGo.st qz5 ?_
    show OGo p.tables e below _ (T4.setTop (mkF m 25 #[.val (.ref a1), .val (.int (1 : Int32)), .val (.int (2 : Int32)), .val (.int (own_hb b1)), .val (.int (1023 : Int32)), .val (.int ((own_sp (own_hb b1)) &&& (1023 : Int32))), .unset] [(.int (1 : Int32))]))
    refine OGo.st (fun _ k_ => XS.ifNo X4.here hx rfl (hb hby own_d_prog_9_method_3_code_25) rfl (XT.i0_eq_f (by decide)) k_) ?_
    show OGo p.tables e below _ (T4.setTop (mkF m 28 #[.val (.ref a1), .val (.int (1 : Int32)), .val (.int (2 : Int32)), .val (.int (own_hb b1)), .val (.int (1023 : Int32)), .val (.int ((own_sp (own_hb b1)) &&& (1023 : Int32))), .unset] []))
    refine OGo.st (fun _ k_ => XS.aloadN X4.here hx rfl (hb hby own_d_prog_9_method_3_code_28) rfl rfl k_) ?_
    show OGo p.tables e below _ (T4.setTop (mkF m 29 #[.val (.ref a1), .val (.int (1 : Int32)), .val (.int (2 : Int32)), .val (.int (own_hb b1)), .val (.int (1023 : Int32)), .val (.int ((own_sp (own_hb b1)) &&& (1023 : Int32))), .unset] [(.ref a1)]))
    obtain ⟨T6, X6, ez6, st6⟩ := getF X4 hx hZ hown (host := "") (Or.inl (hw _ (List.mem_of_getElem? (i := 11) rfl))) Via.refl ez4 F_table_a1 (g := (mkF m 29 #[.val (.ref a1), .val (.int (1 : Int32)), .val (.int (2 : Int32)), .val (.int (own_hb b1)), .val (.int (1023 : Int32)), .val (.int ((own_sp (own_hb b1)) &&& (1023 : Int32))), .unset] [(.ref a1)])) rfl rfl (hb hby own_d_prog_9_method_3_code_29)
    refine OGo.st st6 ?_
    show OGo p.tables e below _ (T6.setTop (mkF m 32 #[.val (.ref a1), .val (.int (1 : Int32)), .val (.int (2 : Int32)), .val (.int (own_hb b1)), .val (.int (1023 : Int32)), .val (.int ((own_sp (own_hb b1)) &&& (1023 : Int32))), .unset] [(.ref at_)]))
    refine OGo.st (fun _ k_ => XS.iload X6.here hx rfl (hb hby own_d_prog_9_method_3_code_32) rfl k_) ?_
    show OGo p.tables e below _ (T6.setTop (mkF m 34 #[.val (.ref a1), .val (.int (1 : Int32)), .val (.int (2 : Int32)), .val (.int (own_hb b1)), .val (.int (1023 : Int32)), .val (.int ((own_sp (own_hb b1)) &&& (1023 : Int32))), .unset] [(.int ((own_sp (own_hb b1)) &&& (1023 : Int32))), (.ref at_)]))
    have qz7 := own_ldI X6 hx hZ ez6 A_at_ (j := ((own_sp (own_hb b1)) &&& (1023 : Int32))) (v := (1 : Int32)) (own_spin _) (own_upd_hit hcol) (g := (mkF m 34 #[.val (.ref a1), .val (.int (1 : Int32)), .val (.int (2 : Int32)), .val (.int (own_hb b1)), .val (.int (1023 : Int32)), .val (.int ((own_sp (own_hb b1)) &&& (1023 : Int32))), .unset] [(.int ((own_sp (own_hb b1)) &&& (1023 : Int32))), (.ref at_)])) rfl rfl (hb hby own_d_prog_9_method_3_code_34)
    refine OGo.st qz7 ?_
    show OGo p.tables e below _ (T6.setTop (mkF m 35 #[.val (.ref a1), .val (.int (1 : Int32)), .val (.int (2 : Int32)), .val (.int (own_hb b1)), .val (.int (1023 : Int32)), .val (.int ((own_sp (own_hb b1)) &&& (1023 : Int32))), .unset] [(.int (1 : Int32))]))
    refine OGo.st (fun _ k_ => XS.iconst X6.here hx rfl (hb hby own_d_prog_9_method_3_code_35) k_) ?_
    show OGo p.tables e below _ (T6.setTop (mkF m 36 #[.val (.ref a1), .val (.int (1 : Int32)), .val (.int (2 : Int32)), .val (.int (own_hb b1)), .val (.int (1023 : Int32)), .val (.int ((own_sp (own_hb b1)) &&& (1023 : Int32))), .unset] [(.int (1 : Int32)), (.int (1 : Int32))]))
    refine OGo.st (fun _ k_ => XS.isub X6.here hx rfl (hb hby own_d_prog_9_method_3_code_36) rfl k_) ?_
    show OGo p.tables e below _ (T6.setTop (mkF m 37 #[.val (.ref a1), .val (.int (1 : Int32)), .val (.int (2 : Int32)), .val (.int (own_hb b1)), .val (.int (1023 : Int32)), .val (.int ((own_sp (own_hb b1)) &&& (1023 : Int32))), .unset] [(.int (0 : Int32))]))
    refine OGo.st (fun _ k_ => XS.istore X6.here hx rfl (hb hby own_d_prog_9_method_3_code_37) rfl (l' := #[.val (.ref a1), .val (.int (1 : Int32)), .val (.int (2 : Int32)), .val (.int (own_hb b1)), .val (.int (1023 : Int32)), .val (.int ((own_sp (own_hb b1)) &&& (1023 : Int32))), .val (.int (0 : Int32))]) rfl k_) ?_
    show OGo p.tables e below _ (T6.setTop (mkF m 39 #[.val (.ref a1), .val (.int (1 : Int32)), .val (.int (2 : Int32)), .val (.int (own_hb b1)), .val (.int (1023 : Int32)), .val (.int ((own_sp (own_hb b1)) &&& (1023 : Int32))), .val (.int (0 : Int32))] []))
    refine OGo.st (fun _ k_ => XS.aloadN X6.here hx rfl (hb hby own_d_prog_9_method_3_code_39) rfl rfl k_) ?_
    show OGo p.tables e below _ (T6.setTop (mkF m 40 #[.val (.ref a1), .val (.int (1 : Int32)), .val (.int (2 : Int32)), .val (.int (own_hb b1)), .val (.int (1023 : Int32)), .val (.int ((own_sp (own_hb b1)) &&& (1023 : Int32))), .val (.int (0 : Int32))] [(.ref a1)]))
    obtain ⟨T8, X8, ez8, st8⟩ := getF X6 hx hZ hown (host := "") (Or.inl (hw _ (List.mem_of_getElem? (i := 13) rfl))) Via.refl ez6 F_hashes_a1 (g := (mkF m 40 #[.val (.ref a1), .val (.int (1 : Int32)), .val (.int (2 : Int32)), .val (.int (own_hb b1)), .val (.int (1023 : Int32)), .val (.int ((own_sp (own_hb b1)) &&& (1023 : Int32))), .val (.int (0 : Int32))] [(.ref a1)])) rfl rfl (hb hby own_d_prog_9_method_3_code_40)
    refine OGo.st st8 ?_
    show OGo p.tables e below _ (T8.setTop (mkF m 43 #[.val (.ref a1), .val (.int (1 : Int32)), .val (.int (2 : Int32)), .val (.int (own_hb b1)), .val (.int (1023 : Int32)), .val (.int ((own_sp (own_hb b1)) &&& (1023 : Int32))), .val (.int (0 : Int32))] [(.ref ah)]))
    refine OGo.st (fun _ k_ => XS.iload X8.here hx rfl (hb hby own_d_prog_9_method_3_code_43) rfl k_) ?_
    show OGo p.tables e below _ (T8.setTop (mkF m 45 #[.val (.ref a1), .val (.int (1 : Int32)), .val (.int (2 : Int32)), .val (.int (own_hb b1)), .val (.int (1023 : Int32)), .val (.int ((own_sp (own_hb b1)) &&& (1023 : Int32))), .val (.int (0 : Int32))] [(.int (0 : Int32)), (.ref ah)]))
    have qz9 := own_ldI X8 hx hZ ez8 A_ah (j := (0 : Int32)) (v := (own_hb b0)) (by decide) rfl (g := (mkF m 45 #[.val (.ref a1), .val (.int (1 : Int32)), .val (.int (2 : Int32)), .val (.int (own_hb b1)), .val (.int (1023 : Int32)), .val (.int ((own_sp (own_hb b1)) &&& (1023 : Int32))), .val (.int (0 : Int32))] [(.int (0 : Int32)), (.ref ah)])) rfl rfl (hb hby own_d_prog_9_method_3_code_45)
    refine OGo.st qz9 ?_
    show OGo p.tables e below _ (T8.setTop (mkF m 46 #[.val (.ref a1), .val (.int (1 : Int32)), .val (.int (2 : Int32)), .val (.int (own_hb b1)), .val (.int (1023 : Int32)), .val (.int ((own_sp (own_hb b1)) &&& (1023 : Int32))), .val (.int (0 : Int32))] [(.int (own_hb b0))]))
    refine OGo.st (fun _ k_ => XS.iloadN X8.here hx rfl (hb hby own_d_prog_9_method_3_code_46) rfl k_) ?_
    show OGo p.tables e below _ (T8.setTop (mkF m 47 #[.val (.ref a1), .val (.int (1 : Int32)), .val (.int (2 : Int32)), .val (.int (own_hb b1)), .val (.int (1023 : Int32)), .val (.int ((own_sp (own_hb b1)) &&& (1023 : Int32))), .val (.int (0 : Int32))] [(.int (own_hb b1)), (.int (own_hb b0))]))
    by_cases hc47 : (own_hb b0) = (own_hb b1)
    · refine OGo.st (fun _ k_ => XS.icmpNo X8.here hx rfl (hb hby own_d_prog_9_method_3_code_47) rfl (XT.ii_ne_f hc47) k_) ?_
      show OGo p.tables e below _ (T8.setTop (mkF m 50 #[.val (.ref a1), .val (.int (1 : Int32)), .val (.int (2 : Int32)), .val (.int (own_hb b1)), .val (.int (1023 : Int32)), .val (.int ((own_sp (own_hb b1)) &&& (1023 : Int32))), .val (.int (0 : Int32))] []))
      refine OGo.st (fun _ k_ => XS.aloadN X8.here hx rfl (hb hby own_d_prog_9_method_3_code_50) rfl rfl k_) ?_
      show OGo p.tables e below _ (T8.setTop (mkF m 51 #[.val (.ref a1), .val (.int (1 : Int32)), .val (.int (2 : Int32)), .val (.int (own_hb b1)), .val (.int (1023 : Int32)), .val (.int ((own_sp (own_hb b1)) &&& (1023 : Int32))), .val (.int (0 : Int32))] [(.ref a1)]))
      obtain ⟨T10, X10, ez10, st10⟩ := getF X8 hx hZ hown (host := "") (Or.inl (hw _ (List.mem_of_getElem? (i := 29) rfl))) Via.refl ez8 F_bytes_a1 (g := (mkF m 51 #[.val (.ref a1), .val (.int (1 : Int32)), .val (.int (2 : Int32)), .val (.int (own_hb b1)), .val (.int (1023 : Int32)), .val (.int ((own_sp (own_hb b1)) &&& (1023 : Int32))), .val (.int (0 : Int32))] [(.ref a1)])) rfl rfl (hb hby own_d_prog_9_method_3_code_51)
      refine OGo.st st10 ?_
      show OGo p.tables e below _ (T10.setTop (mkF m 54 #[.val (.ref a1), .val (.int (1 : Int32)), .val (.int (2 : Int32)), .val (.int (own_hb b1)), .val (.int (1023 : Int32)), .val (.int ((own_sp (own_hb b1)) &&& (1023 : Int32))), .val (.int (0 : Int32))] [(.ref ab)]))
      refine OGo.st (fun _ k_ => XS.aloadN X10.here hx rfl (hb hby own_d_prog_9_method_3_code_54) rfl rfl k_) ?_
      show OGo p.tables e below _ (T10.setTop (mkF m 55 #[.val (.ref a1), .val (.int (1 : Int32)), .val (.int (2 : Int32)), .val (.int (own_hb b1)), .val (.int (1023 : Int32)), .val (.int ((own_sp (own_hb b1)) &&& (1023 : Int32))), .val (.int (0 : Int32))] [(.ref a1), (.ref ab)]))
      obtain ⟨T11, X11, ez11, st11⟩ := getF X10 hx hZ hown (host := "") (Or.inl (hw _ (List.mem_of_getElem? (i := 15) rfl))) Via.refl ez10 F_starts_a1 (g := (mkF m 55 #[.val (.ref a1), .val (.int (1 : Int32)), .val (.int (2 : Int32)), .val (.int (own_hb b1)), .val (.int (1023 : Int32)), .val (.int ((own_sp (own_hb b1)) &&& (1023 : Int32))), .val (.int (0 : Int32))] [(.ref a1), (.ref ab)])) rfl rfl (hb hby own_d_prog_9_method_3_code_55)
      refine OGo.st st11 ?_
      show OGo p.tables e below _ (T11.setTop (mkF m 58 #[.val (.ref a1), .val (.int (1 : Int32)), .val (.int (2 : Int32)), .val (.int (own_hb b1)), .val (.int (1023 : Int32)), .val (.int ((own_sp (own_hb b1)) &&& (1023 : Int32))), .val (.int (0 : Int32))] [(.ref as_), (.ref ab)]))
      refine OGo.st (fun _ k_ => XS.iload X11.here hx rfl (hb hby own_d_prog_9_method_3_code_58) rfl k_) ?_
      show OGo p.tables e below _ (T11.setTop (mkF m 60 #[.val (.ref a1), .val (.int (1 : Int32)), .val (.int (2 : Int32)), .val (.int (own_hb b1)), .val (.int (1023 : Int32)), .val (.int ((own_sp (own_hb b1)) &&& (1023 : Int32))), .val (.int (0 : Int32))] [(.int (0 : Int32)), (.ref as_), (.ref ab)]))
      have qz12 := own_ldI X11 hx hZ ez11 A_as_ (j := (0 : Int32)) (v := (0 : Int32)) (by decide) rfl (g := (mkF m 60 #[.val (.ref a1), .val (.int (1 : Int32)), .val (.int (2 : Int32)), .val (.int (own_hb b1)), .val (.int (1023 : Int32)), .val (.int ((own_sp (own_hb b1)) &&& (1023 : Int32))), .val (.int (0 : Int32))] [(.int (0 : Int32)), (.ref as_), (.ref ab)])) rfl rfl (hb hby own_d_prog_9_method_3_code_60)
      refine OGo.st qz12 ?_
      show OGo p.tables e below _ (T11.setTop (mkF m 61 #[.val (.ref a1), .val (.int (1 : Int32)), .val (.int (2 : Int32)), .val (.int (own_hb b1)), .val (.int (1023 : Int32)), .val (.int ((own_sp (own_hb b1)) &&& (1023 : Int32))), .val (.int (0 : Int32))] [(.int (0 : Int32)), (.ref ab)]))
      refine OGo.st (fun _ k_ => XS.aloadN X11.here hx rfl (hb hby own_d_prog_9_method_3_code_61) rfl rfl k_) ?_
      show OGo p.tables e below _ (T11.setTop (mkF m 62 #[.val (.ref a1), .val (.int (1 : Int32)), .val (.int (2 : Int32)), .val (.int (own_hb b1)), .val (.int (1023 : Int32)), .val (.int ((own_sp (own_hb b1)) &&& (1023 : Int32))), .val (.int (0 : Int32))] [(.ref a1), (.int (0 : Int32)), (.ref ab)]))
      obtain ⟨T13, X13, ez13, st13⟩ := getF X11 hx hZ hown (host := "") (Or.inl (hw _ (List.mem_of_getElem? (i := 17) rfl))) Via.refl ez11 F_ends_a1 (g := (mkF m 62 #[.val (.ref a1), .val (.int (1 : Int32)), .val (.int (2 : Int32)), .val (.int (own_hb b1)), .val (.int (1023 : Int32)), .val (.int ((own_sp (own_hb b1)) &&& (1023 : Int32))), .val (.int (0 : Int32))] [(.ref a1), (.int (0 : Int32)), (.ref ab)])) rfl rfl (hb hby own_d_prog_9_method_3_code_62)
      refine OGo.st st13 ?_
      show OGo p.tables e below _ (T13.setTop (mkF m 65 #[.val (.ref a1), .val (.int (1 : Int32)), .val (.int (2 : Int32)), .val (.int (own_hb b1)), .val (.int (1023 : Int32)), .val (.int ((own_sp (own_hb b1)) &&& (1023 : Int32))), .val (.int (0 : Int32))] [(.ref ae), (.int (0 : Int32)), (.ref ab)]))
      refine OGo.st (fun _ k_ => XS.iload X13.here hx rfl (hb hby own_d_prog_9_method_3_code_65) rfl k_) ?_
      show OGo p.tables e below _ (T13.setTop (mkF m 67 #[.val (.ref a1), .val (.int (1 : Int32)), .val (.int (2 : Int32)), .val (.int (own_hb b1)), .val (.int (1023 : Int32)), .val (.int ((own_sp (own_hb b1)) &&& (1023 : Int32))), .val (.int (0 : Int32))] [(.int (0 : Int32)), (.ref ae), (.int (0 : Int32)), (.ref ab)]))
      have qz14 := own_ldI X13 hx hZ ez13 A_ae (j := (0 : Int32)) (v := (1 : Int32)) (by decide) rfl (g := (mkF m 67 #[.val (.ref a1), .val (.int (1 : Int32)), .val (.int (2 : Int32)), .val (.int (own_hb b1)), .val (.int (1023 : Int32)), .val (.int ((own_sp (own_hb b1)) &&& (1023 : Int32))), .val (.int (0 : Int32))] [(.int (0 : Int32)), (.ref ae), (.int (0 : Int32)), (.ref ab)])) rfl rfl (hb hby own_d_prog_9_method_3_code_67)
      refine OGo.st qz14 ?_
      show OGo p.tables e below _ (T13.setTop (mkF m 68 #[.val (.ref a1), .val (.int (1 : Int32)), .val (.int (2 : Int32)), .val (.int (own_hb b1)), .val (.int (1023 : Int32)), .val (.int ((own_sp (own_hb b1)) &&& (1023 : Int32))), .val (.int (0 : Int32))] [(.int (1 : Int32)), (.int (0 : Int32)), (.ref ab)]))
      refine OGo.st (fun _ k_ => XS.aloadN X13.here hx rfl (hb hby own_d_prog_9_method_3_code_68) rfl rfl k_) ?_
      show OGo p.tables e below _ (T13.setTop (mkF m 69 #[.val (.ref a1), .val (.int (1 : Int32)), .val (.int (2 : Int32)), .val (.int (own_hb b1)), .val (.int (1023 : Int32)), .val (.int ((own_sp (own_hb b1)) &&& (1023 : Int32))), .val (.int (0 : Int32))] [(.ref a1), (.int (1 : Int32)), (.int (0 : Int32)), (.ref ab)]))
      obtain ⟨T15, X15, ez15, st15⟩ := getF X13 hx hZ hown (host := "") (Or.inl (hw _ (List.mem_of_getElem? (i := 29) rfl))) Via.refl ez13 F_bytes_a1 (g := (mkF m 69 #[.val (.ref a1), .val (.int (1 : Int32)), .val (.int (2 : Int32)), .val (.int (own_hb b1)), .val (.int (1023 : Int32)), .val (.int ((own_sp (own_hb b1)) &&& (1023 : Int32))), .val (.int (0 : Int32))] [(.ref a1), (.int (1 : Int32)), (.int (0 : Int32)), (.ref ab)])) rfl rfl (hb hby own_d_prog_9_method_3_code_69)
      refine OGo.st st15 ?_
      show OGo p.tables e below _ (T15.setTop (mkF m 72 #[.val (.ref a1), .val (.int (1 : Int32)), .val (.int (2 : Int32)), .val (.int (own_hb b1)), .val (.int (1023 : Int32)), .val (.int ((own_sp (own_hb b1)) &&& (1023 : Int32))), .val (.int (0 : Int32))] [(.ref ab), (.int (1 : Int32)), (.int (0 : Int32)), (.ref ab)]))
      refine OGo.st (fun _ k_ => XS.iloadN X15.here hx rfl (hb hby own_d_prog_9_method_3_code_72) rfl k_) ?_
      show OGo p.tables e below _ (T15.setTop (mkF m 73 #[.val (.ref a1), .val (.int (1 : Int32)), .val (.int (2 : Int32)), .val (.int (own_hb b1)), .val (.int (1023 : Int32)), .val (.int ((own_sp (own_hb b1)) &&& (1023 : Int32))), .val (.int (0 : Int32))] [(.int (1 : Int32)), (.ref ab), (.int (1 : Int32)), (.int (0 : Int32)), (.ref ab)]))
      refine OGo.st (fun _ k_ => XS.iloadN X15.here hx rfl (hb hby own_d_prog_9_method_3_code_73) rfl k_) ?_
      show OGo p.tables e below _ (T15.setTop (mkF m 74 #[.val (.ref a1), .val (.int (1 : Int32)), .val (.int (2 : Int32)), .val (.int (own_hb b1)), .val (.int (1023 : Int32)), .val (.int ((own_sp (own_hb b1)) &&& (1023 : Int32))), .val (.int (0 : Int32))] [(.int (2 : Int32)), (.int (1 : Int32)), (.ref ab), (.int (1 : Int32)), (.int (0 : Int32)), (.ref ab)]))
      obtain ⟨_, _, ⟨T16, Lz16, kz16, nz16⟩, -, X16, ⟨Lc16, hQ16, lz16, yz16, zz16⟩, st16⟩ := Jvm.LawKit.callS X15 hx (y := (⟨"java/util/Arrays", "equals", "([BII[BII)Z"⟩ : MethodName)) hown (mvT hZ (hw _ (List.mem_of_getElem? (i := 68) rfl))) (mvT hZ (hw _ (List.mem_of_getElem? (i := 69) rfl))) (mvT hZ (hw _ (List.mem_of_getElem? (i := 70) rfl))) (mvT hZ (hw _ (List.mem_of_getElem? (i := 71) rfl))) (by decide) (backOf (W := 0) (rm7 l Z a0 hw [] ab kb b0 b1 h0 n0 (Nat.le_trans Z0 (Keep.refl h0 [a1, at_, ah, as_, ae]).1) A_ab (own_hb_inj hc47)) hZ (hw _ (List.mem_of_getElem? (i := 71) rfl)) (hw _ (List.mem_of_getElem? (i := 70) rfl)) (by decide) (by decide)) (g := (mkF m 74 #[.val (.ref a1), .val (.int (1 : Int32)), .val (.int (2 : Int32)), .val (.int (own_hb b1)), .val (.int (1023 : Int32)), .val (.int ((own_sp (own_hb b1)) &&& (1023 : Int32))), .val (.int (0 : Int32))] [(.int (2 : Int32)), (.int (1 : Int32)), (.ref ab), (.int (1 : Int32)), (.int (0 : Int32)), (.ref ab)])) rfl (by rw [hml]; rfl) (argsL := [(.ref ab), (.int (0 : Int32)), (.int (1 : Int32)), (.ref ab), (.int (1 : Int32)), (.int (2 : Int32))]) (rest := []) (lenOf own_pd4 rfl) rfl (by show 2 * 0 + _ ≤ _; exact Nat.le_of_eq rfl) (hb hby own_d_prog_9_method_3_code_74) (fun _ _ => ⟨rfl, ez15, (by decide : 0 + 0 ≤ _), (by decide : 0 + 0 ≤ _)⟩)
      dsimp only [Pt.U, Pt.locs, Pt.cells, Pt.slots] at X16 lz16 yz16 zz16 st16 hQ16
      subst lz16 yz16 zz16
      obtain ⟨rfl, Nq16, ez16⟩ := hQ16
      have N16 := Fr.app N3 Nq16
      refine OGo.st st16 ?_
      show OGo p.tables e below _ (T16.setTop (mkF m 77 #[.val (.ref a1), .val (.int (1 : Int32)), .val (.int (2 : Int32)), .val (.int (own_hb b1)), .val (.int (1023 : Int32)), .val (.int ((own_sp (own_hb b1)) &&& (1023 : Int32))), .val (.int (0 : Int32))] [(.int (1 : Int32))]))
      refine OGo.st (fun _ k_ => XS.ifNo X16.here hx rfl (hb hby own_d_prog_9_method_3_code_77) rfl (XT.i0_eq_f (by decide)) k_) ?_
      show OGo p.tables e below _ (T16.setTop (mkF m 80 #[.val (.ref a1), .val (.int (1 : Int32)), .val (.int (2 : Int32)), .val (.int (own_hb b1)), .val (.int (1023 : Int32)), .val (.int ((own_sp (own_hb b1)) &&& (1023 : Int32))), .val (.int (0 : Int32))] []))
      refine OGo.st (fun _ k_ => XS.iload X16.here hx rfl (hb hby own_d_prog_9_method_3_code_80) rfl k_) ?_
      show OGo p.tables e below _ (T16.setTop (mkF m 82 #[.val (.ref a1), .val (.int (1 : Int32)), .val (.int (2 : Int32)), .val (.int (own_hb b1)), .val (.int (1023 : Int32)), .val (.int ((own_sp (own_hb b1)) &&& (1023 : Int32))), .val (.int (0 : Int32))] [(.int (0 : Int32))]))
      refine OGo.fin X16 (v := some (.int (0 : Int32))) (fun h => by rw [Bd.returns] at h; cases h) hlk (fun fs hr => X16.ireturnOut hx Bd.returns rfl (Or.inl rfl) (hb hby own_d_prog_9_method_3_code_82) hr) ?_ (by decide) (by decide)
      show own_Q_rm9 Z a1 b0 b1 at_ ah as_ ae av ar ab kt kh ks ke kb h0 n0 _ T16.heap _
      rw [ez16]
      exact ⟨_, rfl, by decide, N16, (Keep.refl h0 [a1, at_, ah, as_, ae]), F_table_a1, F_hashes_a1, F_starts_a1, F_ends_a1, F_values_a1, F_readings_a1, F_bytes_a1⟩
    · refine OGo.st (fun _ k_ => XS.icmpYes X8.here hx rfl (pc0 := 47) (pc' := 83) rfl (hb hby own_d_prog_9_method_3_code_47) rfl (XT.ii_ne_t hc47) (by decide) (by decide) k_) ?_
      show OGo p.tables e below _ (T8.setTop (mkF m 83 #[.val (.ref a1), .val (.int (1 : Int32)), .val (.int (2 : Int32)), .val (.int (own_hb b1)), .val (.int (1023 : Int32)), .val (.int ((own_sp (own_hb b1)) &&& (1023 : Int32))), .val (.int (0 : Int32))] []))
      refine OGo.st (fun _ k_ => XS.iload X8.here hx rfl (hb hby own_d_prog_9_method_3_code_83) rfl k_) ?_
      show OGo p.tables e below _ (T8.setTop (mkF m 85 #[.val (.ref a1), .val (.int (1 : Int32)), .val (.int (2 : Int32)), .val (.int (own_hb b1)), .val (.int (1023 : Int32)), .val (.int ((own_sp (own_hb b1)) &&& (1023 : Int32))), .val (.int (0 : Int32))] [(.int ((own_sp (own_hb b1)) &&& (1023 : Int32)))]))
      refine OGo.st (fun _ k_ => XS.iconst X8.here hx rfl (hb hby own_d_prog_9_method_3_code_85) k_) ?_
      show OGo p.tables e below _ (T8.setTop (mkF m 86 #[.val (.ref a1), .val (.int (1 : Int32)), .val (.int (2 : Int32)), .val (.int (own_hb b1)), .val (.int (1023 : Int32)), .val (.int ((own_sp (own_hb b1)) &&& (1023 : Int32))), .val (.int (0 : Int32))] [(.int (1 : Int32)), (.int ((own_sp (own_hb b1)) &&& (1023 : Int32)))]))
      refine OGo.st (fun _ k_ => XS.iadd X8.here hx rfl (hb hby own_d_prog_9_method_3_code_86) rfl k_) ?_
      show OGo p.tables e below _ (T8.setTop (mkF m 87 #[.val (.ref a1), .val (.int (1 : Int32)), .val (.int (2 : Int32)), .val (.int (own_hb b1)), .val (.int (1023 : Int32)), .val (.int ((own_sp (own_hb b1)) &&& (1023 : Int32))), .val (.int (0 : Int32))] [(.int (((own_sp (own_hb b1)) &&& (1023 : Int32)) + (1 : Int32)))]))
      refine OGo.st (fun _ k_ => XS.iload X8.here hx rfl (hb hby own_d_prog_9_method_3_code_87) rfl k_) ?_
      show OGo p.tables e below _ (T8.setTop (mkF m 89 #[.val (.ref a1), .val (.int (1 : Int32)), .val (.int (2 : Int32)), .val (.int (own_hb b1)), .val (.int (1023 : Int32)), .val (.int ((own_sp (own_hb b1)) &&& (1023 : Int32))), .val (.int (0 : Int32))] [(.int (1023 : Int32)), (.int (((own_sp (own_hb b1)) &&& (1023 : Int32)) + (1 : Int32)))]))
      refine OGo.st (fun _ k_ => XS.iand X8.here hx rfl (hb hby own_d_prog_9_method_3_code_89) rfl k_) ?_
      show OGo p.tables e below _ (T8.setTop (mkF m 90 #[.val (.ref a1), .val (.int (1 : Int32)), .val (.int (2 : Int32)), .val (.int (own_hb b1)), .val (.int (1023 : Int32)), .val (.int ((own_sp (own_hb b1)) &&& (1023 : Int32))), .val (.int (0 : Int32))] [(.int ((((own_sp (own_hb b1)) &&& (1023 : Int32)) + (1 : Int32)) &&& (1023 : Int32)))]))
      refine OGo.st (fun _ k_ => XS.istore X8.here hx rfl (hb hby own_d_prog_9_method_3_code_90) rfl (l' := #[.val (.ref a1), .val (.int (1 : Int32)), .val (.int (2 : Int32)), .val (.int (own_hb b1)), .val (.int (1023 : Int32)), .val (.int ((((own_sp (own_hb b1)) &&& (1023 : Int32)) + (1 : Int32)) &&& (1023 : Int32))), .val (.int (0 : Int32))]) rfl k_) ?_
      show OGo p.tables e below _ (T8.setTop (mkF m 92 #[.val (.ref a1), .val (.int (1 : Int32)), .val (.int (2 : Int32)), .val (.int (own_hb b1)), .val (.int (1023 : Int32)), .val (.int ((((own_sp (own_hb b1)) &&& (1023 : Int32)) + (1 : Int32)) &&& (1023 : Int32))), .val (.int (0 : Int32))] []))
      refine OGo.st (fun _ k_ => XS.goto X8.here hx rfl (pc0 := 92) (pc' := 18) rfl (hb hby own_d_prog_9_method_3_code_92) (by decide) (by decide) k_) ?_
      show OGo p.tables e below _ (T8.setTop (mkF m 18 #[.val (.ref a1), .val (.int (1 : Int32)), .val (.int (2 : Int32)), .val (.int (own_hb b1)), .val (.int (1023 : Int32)), .val (.int ((((own_sp (own_hb b1)) &&& (1023 : Int32)) + (1 : Int32)) &&& (1023 : Int32))), .val (.int (0 : Int32))] []))
      refine OGo.st (fun _ k_ => XS.aloadN X8.here hx rfl (hb hby own_d_prog_9_method_3_code_18) rfl rfl k_) ?_
      show OGo p.tables e below _ (T8.setTop (mkF m 19 #[.val (.ref a1), .val (.int (1 : Int32)), .val (.int (2 : Int32)), .val (.int (own_hb b1)), .val (.int (1023 : Int32)), .val (.int ((((own_sp (own_hb b1)) &&& (1023 : Int32)) + (1 : Int32)) &&& (1023 : Int32))), .val (.int (0 : Int32))] [(.ref a1)]))
      obtain ⟨T17, X17, ez17, st17⟩ := getF X8 hx hZ hown (host := "") (Or.inl (hw _ (List.mem_of_getElem? (i := 11) rfl))) Via.refl ez8 F_table_a1 (g := (mkF m 19 #[.val (.ref a1), .val (.int (1 : Int32)), .val (.int (2 : Int32)), .val (.int (own_hb b1)), .val (.int (1023 : Int32)), .val (.int ((((own_sp (own_hb b1)) &&& (1023 : Int32)) + (1 : Int32)) &&& (1023 : Int32))), .val (.int (0 : Int32))] [(.ref a1)])) rfl rfl (hb hby own_d_prog_9_method_3_code_19)
      refine OGo.st st17 ?_
      show OGo p.tables e below _ (T17.setTop (mkF m 22 #[.val (.ref a1), .val (.int (1 : Int32)), .val (.int (2 : Int32)), .val (.int (own_hb b1)), .val (.int (1023 : Int32)), .val (.int ((((own_sp (own_hb b1)) &&& (1023 : Int32)) + (1 : Int32)) &&& (1023 : Int32))), .val (.int (0 : Int32))] [(.ref at_)]))
      refine OGo.st (fun _ k_ => XS.iload X17.here hx rfl (hb hby own_d_prog_9_method_3_code_22) rfl k_) ?_
      show OGo p.tables e below _ (T17.setTop (mkF m 24 #[.val (.ref a1), .val (.int (1 : Int32)), .val (.int (2 : Int32)), .val (.int (own_hb b1)), .val (.int (1023 : Int32)), .val (.int ((((own_sp (own_hb b1)) &&& (1023 : Int32)) + (1 : Int32)) &&& (1023 : Int32))), .val (.int (0 : Int32))] [(.int ((((own_sp (own_hb b1)) &&& (1023 : Int32)) + (1 : Int32)) &&& (1023 : Int32))), (.ref at_)]))
      have qz18 := own_ldI X17 hx hZ ez17 A_at_ (j := ((((own_sp (own_hb b1)) &&& (1023 : Int32)) + (1 : Int32)) &&& (1023 : Int32))) (v := (0 : Int32)) (own_spin1 _) (own_upd_next hcol) (g := (mkF m 24 #[.val (.ref a1), .val (.int (1 : Int32)), .val (.int (2 : Int32)), .val (.int (own_hb b1)), .val (.int (1023 : Int32)), .val (.int ((((own_sp (own_hb b1)) &&& (1023 : Int32)) + (1 : Int32)) &&& (1023 : Int32))), .val (.int (0 : Int32))] [(.int ((((own_sp (own_hb b1)) &&& (1023 : Int32)) + (1 : Int32)) &&& (1023 : Int32))), (.ref at_)])) rfl rfl (hb hby own_d_prog_9_method_3_code_24)
      refine OGo.st qz18 ?_
      show OGo p.tables e below _ (T17.setTop (mkF m 25 #[.val (.ref a1), .val (.int (1 : Int32)), .val (.int (2 : Int32)), .val (.int (own_hb b1)), .val (.int (1023 : Int32)), .val (.int ((((own_sp (own_hb b1)) &&& (1023 : Int32)) + (1 : Int32)) &&& (1023 : Int32))), .val (.int (0 : Int32))] [(.int (0 : Int32))]))
      refine OGo.st (fun _ k_ => XS.ifYes X17.here hx rfl (pc0 := 25) (pc' := 95) rfl (hb hby own_d_prog_9_method_3_code_25) rfl (XT.i0_eq_t rfl) (by decide) (by decide) k_) ?_
      show OGo p.tables e below _ (T17.setTop (mkF m 95 #[.val (.ref a1), .val (.int (1 : Int32)), .val (.int (2 : Int32)), .val (.int (own_hb b1)), .val (.int (1023 : Int32)), .val (.int ((((own_sp (own_hb b1)) &&& (1023 : Int32)) + (1 : Int32)) &&& (1023 : Int32))), .val (.int (0 : Int32))] []))
      refine OGo.st (fun _ k_ => XS.aloadN X17.here hx rfl (hb hby own_d_prog_9_method_3_code_95) rfl rfl k_) ?_
      show OGo p.tables e below _ (T17.setTop (mkF m 96 #[.val (.ref a1), .val (.int (1 : Int32)), .val (.int (2 : Int32)), .val (.int (own_hb b1)), .val (.int (1023 : Int32)), .val (.int ((((own_sp (own_hb b1)) &&& (1023 : Int32)) + (1 : Int32)) &&& (1023 : Int32))), .val (.int (0 : Int32))] [(.ref a1)]))
      refine OGo.st (fun _ k_ => XS.iloadN X17.here hx rfl (hb hby own_d_prog_9_method_3_code_96) rfl k_) ?_
      show OGo p.tables e below _ (T17.setTop (mkF m 97 #[.val (.ref a1), .val (.int (1 : Int32)), .val (.int (2 : Int32)), .val (.int (own_hb b1)), .val (.int (1023 : Int32)), .val (.int ((((own_sp (own_hb b1)) &&& (1023 : Int32)) + (1 : Int32)) &&& (1023 : Int32))), .val (.int (0 : Int32))] [(.int (1 : Int32)), (.ref a1)]))
      refine OGo.st (fun _ k_ => XS.iloadN X17.here hx rfl (hb hby own_d_prog_9_method_3_code_97) rfl k_) ?_
      show OGo p.tables e below _ (T17.setTop (mkF m 98 #[.val (.ref a1), .val (.int (1 : Int32)), .val (.int (2 : Int32)), .val (.int (own_hb b1)), .val (.int (1023 : Int32)), .val (.int ((((own_sp (own_hb b1)) &&& (1023 : Int32)) + (1 : Int32)) &&& (1023 : Int32))), .val (.int (0 : Int32))] [(.int (2 : Int32)), (.int (1 : Int32)), (.ref a1)]))
      refine OGo.st (fun _ k_ => XS.iloadN X17.here hx rfl (hb hby own_d_prog_9_method_3_code_98) rfl k_) ?_
      show OGo p.tables e below _ (T17.setTop (mkF m 99 #[.val (.ref a1), .val (.int (1 : Int32)), .val (.int (2 : Int32)), .val (.int (own_hb b1)), .val (.int (1023 : Int32)), .val (.int ((((own_sp (own_hb b1)) &&& (1023 : Int32)) + (1 : Int32)) &&& (1023 : Int32))), .val (.int (0 : Int32))] [(.int (own_hb b1)), (.int (2 : Int32)), (.int (1 : Int32)), (.ref a1)]))
      refine OGo.st (fun _ k_ => XS.iload X17.here hx rfl (hb hby own_d_prog_9_method_3_code_99) rfl k_) ?_
      show OGo p.tables e below _ (T17.setTop (mkF m 101 #[.val (.ref a1), .val (.int (1 : Int32)), .val (.int (2 : Int32)), .val (.int (own_hb b1)), .val (.int (1023 : Int32)), .val (.int ((((own_sp (own_hb b1)) &&& (1023 : Int32)) + (1 : Int32)) &&& (1023 : Int32))), .val (.int (0 : Int32))] [(.int ((((own_sp (own_hb b1)) &&& (1023 : Int32)) + (1 : Int32)) &&& (1023 : Int32))), (.int (own_hb b1)), (.int (2 : Int32)), (.int (1 : Int32)), (.ref a1)]))
      obtain ⟨cq19, qz19, qz19b⟩ := E_a1.cell
      obtain ⟨_, _, ⟨T19, Lz19, kz19, nz19⟩, -, X19, ⟨Lc19, hQ19, lz19, yz19, zz19⟩, st19⟩ := X17.privateBack hx (y := (⟨"com/example/nodal_ledger/nodalledger/csv/DistinctFields", "added", "(IIII)I"⟩ : MethodName)) hown (mvT hZ (hw _ (List.mem_of_getElem? (i := 43) rfl))) (mvT hZ (hw _ (List.mem_of_getElem? (i := 44) rfl))) (mvT hZ (own_sel0 Z a0 hw)) (Cond.privateMethod_at (mvP hZ (hw _ (List.mem_of_getElem? (i := 45) rfl)) (args := #[]))) (mvT hZ (hw _ (List.mem_of_getElem? (i := 46) rfl))) (by decide) (backOf (W := 0) (rm4 l Z a0 hw [] a1 (1 : Int32) (2 : Int32) (own_hb b1) ((((own_sp (own_hb b1)) &&& (1023 : Int32)) + (1 : Int32)) &&& (1023 : Int32)) at_ ah as_ ae av ar ab kt kh ks ke (own_upd (fun _ => .int 0) (own_sp (own_hb b0) &&& (1023 : Int32)).toNatClampNeg (.int (1 : Int32))) (own_upd (fun _ => .int 0) (0 : Int32).toNatClampNeg (.int (own_hb b0))) (own_upd (fun _ => .int 0) (0 : Int32).toNatClampNeg (.int (0 : Int32))) (own_upd (fun _ => .int 0) (0 : Int32).toNatClampNeg (.int (1 : Int32))) h0 n0 (Nat.le_trans Z0 (Keep.refl h0 [a1, at_, ah, as_, ae]).1) E_a1 F_table_a1 F_hashes_a1 F_starts_a1 F_ends_a1 F_values_a1 F_readings_a1 F_bytes_a1 F_count_a1 g_a1 A_at_ g_at_ A_ah g_ah A_as_ g_as_ A_ae g_ae (by omega) (by omega) (by omega) (by omega) (by omega) (by omega) (by omega) (own_spin1 _)) hZ (hw _ (List.mem_of_getElem? (i := 46) rfl)) (hw _ (List.mem_of_getElem? (i := 3) rfl)) (by decide) (by decide)) (g := (mkF m 101 #[.val (.ref a1), .val (.int (1 : Int32)), .val (.int (2 : Int32)), .val (.int (own_hb b1)), .val (.int (1023 : Int32)), .val (.int ((((own_sp (own_hb b1)) &&& (1023 : Int32)) + (1 : Int32)) &&& (1023 : Int32))), .val (.int (0 : Int32))] [(.int ((((own_sp (own_hb b1)) &&& (1023 : Int32)) + (1 : Int32)) &&& (1023 : Int32))), (.int (own_hb b1)), (.int (2 : Int32)), (.int (1 : Int32)), (.ref a1)])) rfl (by rw [hml]; rfl) (Steps.refl _) (a := a1) (by rw [ez17]; exact qz19) qz19b (argsL := [(.int (1 : Int32)), (.int (2 : Int32)), (.int (own_hb b1)), (.int ((((own_sp (own_hb b1)) &&& (1023 : Int32)) + (1 : Int32)) &&& (1023 : Int32)))]) (rest := []) (lenOf own_pd3 rfl) rfl (by show 2 * 0 + _ ≤ _; exact Nat.le_of_eq rfl) (hb hby own_d_prog_9_method_3_code_101) (fun _ _ => ⟨rfl, ez17, (by decide : 0 + 0 ≤ _), (by decide : 0 + 0 ≤ _)⟩)
      dsimp only [Pt.U, Pt.locs, Pt.cells, Pt.slots] at X19 lz19 yz19 zz19 st19 hQ19
      subst lz19 yz19 zz19
      obtain ⟨rfl, Nq19, Kq19, ff19_0, ff19_1, ff19_2, ff19_3, ff19_4, ff19_5, ff19_6, ff19_7, ff19_8, ff19_9, ff19_10, ff19_11⟩ := hQ19
      have N19 := Fr.app N3 Nq19
      have Ex_20 := E_a1.keep Kq19
      have Af_21 := A_ab.keep Kq19 (ninS (show @Ne Nat ab a1 by omega) (ninS (show @Ne Nat ab at_ by omega) (ninS (show @Ne Nat ab ah by omega) (ninS (show @Ne Nat ab as_ by omega) (ninS (show @Ne Nat ab ae by omega) nin0)))))
      have K_22 : Keep h0 T19.heap [a1, at_, ah, as_, ae] := (Keep.refl h0 [a1, at_, ah, as_, ae]).trans Kq19 (allS (Or.inl (List.mem_of_getElem? (i := 0) rfl)) (allS (Or.inl (List.mem_of_getElem? (i := 1) rfl)) (allS (Or.inl (List.mem_of_getElem? (i := 2) rfl)) (allS (Or.inl (List.mem_of_getElem? (i := 3) rfl)) (allS (Or.inl (List.mem_of_getElem? (i := 4) rfl)) all0)))))
      refine OGo.tr st19 ?_
      show OGo p.tables e below _ (T19.setTop (mkF m 104 #[.val (.ref a1), .val (.int (1 : Int32)), .val (.int (2 : Int32)), .val (.int (own_hb b1)), .val (.int (1023 : Int32)), .val (.int ((((own_sp (own_hb b1)) &&& (1023 : Int32)) + (1 : Int32)) &&& (1023 : Int32))), .val (.int (0 : Int32))] [(.int (1 : Int32))]))
      refine OGo.fin X19 (v := some (.int (1 : Int32))) (fun h => by rw [Bd.returns] at h; cases h) hlk (fun fs hr => X19.ireturnOut hx Bd.returns rfl (Or.inl rfl) (hb hby own_d_prog_9_method_3_code_104) hr) ?_ (by decide) (by decide)
      show own_Q_rm9 Z a1 b0 b1 at_ ah as_ ae av ar ab kt kh ks ke kb h0 n0 _ T19.heap _
      skip
      exact ⟨_, rfl, by decide, N19, K_22, ff19_0, ff19_1, ff19_2, ff19_3, ff19_4, ff19_5, ff19_6⟩
  · skip
    show OGo p.tables e below _ (T4.setTop (mkF m 24 #[.val (.ref a1), .val (.int (1 : Int32)), .val (.int (2 : Int32)), .val (.int (own_hb b1)), .val (.int (1023 : Int32)), .val (.int ((own_sp (own_hb b1)) &&& (1023 : Int32))), .unset] [(.int ((own_sp (own_hb b1)) &&& (1023 : Int32))), (.ref at_)]))
    have qz23 := own_ldI X4 hx hZ ez4 A_at_ (j := ((own_sp (own_hb b1)) &&& (1023 : Int32))) (v := (0 : Int32)) (own_spin _) (own_upd_miss hcol) (g := (mkF m 24 #[.val (.ref a1), .val (.int (1 : Int32)), .val (.int (2 : Int32)), .val (.int (own_hb b1)), .val (.int (1023 : Int32)), .val (.int ((own_sp (own_hb b1)) &&& (1023 : Int32))), .unset] [(.int ((own_sp (own_hb b1)) &&& (1023 : Int32))), (.ref at_)])) rfl rfl (hb hby own_d_prog_9_method_3_code_24)
    refine OGo.st qz23 ?_
    show OGo p.tables e below _ (T4.setTop (mkF m 25 #[.val (.ref a1), .val (.int (1 : Int32)), .val (.int (2 : Int32)), .val (.int (own_hb b1)), .val (.int (1023 : Int32)), .val (.int ((own_sp (own_hb b1)) &&& (1023 : Int32))), .unset] [(.int (0 : Int32))]))
    refine OGo.st (fun _ k_ => XS.ifYes X4.here hx rfl (pc0 := 25) (pc' := 95) rfl (hb hby own_d_prog_9_method_3_code_25) rfl (XT.i0_eq_t rfl) (by decide) (by decide) k_) ?_
    show OGo p.tables e below _ (T4.setTop (mkF m 95 #[.val (.ref a1), .val (.int (1 : Int32)), .val (.int (2 : Int32)), .val (.int (own_hb b1)), .val (.int (1023 : Int32)), .val (.int ((own_sp (own_hb b1)) &&& (1023 : Int32))), .unset] []))
    refine OGo.st (fun _ k_ => XS.aloadN X4.here hx rfl (hb hby own_d_prog_9_method_3_code_95) rfl rfl k_) ?_
    show OGo p.tables e below _ (T4.setTop (mkF m 96 #[.val (.ref a1), .val (.int (1 : Int32)), .val (.int (2 : Int32)), .val (.int (own_hb b1)), .val (.int (1023 : Int32)), .val (.int ((own_sp (own_hb b1)) &&& (1023 : Int32))), .unset] [(.ref a1)]))
    refine OGo.st (fun _ k_ => XS.iloadN X4.here hx rfl (hb hby own_d_prog_9_method_3_code_96) rfl k_) ?_
    show OGo p.tables e below _ (T4.setTop (mkF m 97 #[.val (.ref a1), .val (.int (1 : Int32)), .val (.int (2 : Int32)), .val (.int (own_hb b1)), .val (.int (1023 : Int32)), .val (.int ((own_sp (own_hb b1)) &&& (1023 : Int32))), .unset] [(.int (1 : Int32)), (.ref a1)]))
    refine OGo.st (fun _ k_ => XS.iloadN X4.here hx rfl (hb hby own_d_prog_9_method_3_code_97) rfl k_) ?_
    show OGo p.tables e below _ (T4.setTop (mkF m 98 #[.val (.ref a1), .val (.int (1 : Int32)), .val (.int (2 : Int32)), .val (.int (own_hb b1)), .val (.int (1023 : Int32)), .val (.int ((own_sp (own_hb b1)) &&& (1023 : Int32))), .unset] [(.int (2 : Int32)), (.int (1 : Int32)), (.ref a1)]))
    refine OGo.st (fun _ k_ => XS.iloadN X4.here hx rfl (hb hby own_d_prog_9_method_3_code_98) rfl k_) ?_
    show OGo p.tables e below _ (T4.setTop (mkF m 99 #[.val (.ref a1), .val (.int (1 : Int32)), .val (.int (2 : Int32)), .val (.int (own_hb b1)), .val (.int (1023 : Int32)), .val (.int ((own_sp (own_hb b1)) &&& (1023 : Int32))), .unset] [(.int (own_hb b1)), (.int (2 : Int32)), (.int (1 : Int32)), (.ref a1)]))
    refine OGo.st (fun _ k_ => XS.iload X4.here hx rfl (hb hby own_d_prog_9_method_3_code_99) rfl k_) ?_
    show OGo p.tables e below _ (T4.setTop (mkF m 101 #[.val (.ref a1), .val (.int (1 : Int32)), .val (.int (2 : Int32)), .val (.int (own_hb b1)), .val (.int (1023 : Int32)), .val (.int ((own_sp (own_hb b1)) &&& (1023 : Int32))), .unset] [(.int ((own_sp (own_hb b1)) &&& (1023 : Int32))), (.int (own_hb b1)), (.int (2 : Int32)), (.int (1 : Int32)), (.ref a1)]))
    obtain ⟨cq24, qz24, qz24b⟩ := E_a1.cell
    obtain ⟨_, _, ⟨T24, Lz24, kz24, nz24⟩, -, X24, ⟨Lc24, hQ24, lz24, yz24, zz24⟩, st24⟩ := X4.privateBack hx (y := (⟨"com/example/nodal_ledger/nodalledger/csv/DistinctFields", "added", "(IIII)I"⟩ : MethodName)) hown (mvT hZ (hw _ (List.mem_of_getElem? (i := 43) rfl))) (mvT hZ (hw _ (List.mem_of_getElem? (i := 44) rfl))) (mvT hZ (own_sel0 Z a0 hw)) (Cond.privateMethod_at (mvP hZ (hw _ (List.mem_of_getElem? (i := 45) rfl)) (args := #[]))) (mvT hZ (hw _ (List.mem_of_getElem? (i := 46) rfl))) (by decide) (backOf (W := 0) (rm4 l Z a0 hw [] a1 (1 : Int32) (2 : Int32) (own_hb b1) ((own_sp (own_hb b1)) &&& (1023 : Int32)) at_ ah as_ ae av ar ab kt kh ks ke (own_upd (fun _ => .int 0) (own_sp (own_hb b0) &&& (1023 : Int32)).toNatClampNeg (.int (1 : Int32))) (own_upd (fun _ => .int 0) (0 : Int32).toNatClampNeg (.int (own_hb b0))) (own_upd (fun _ => .int 0) (0 : Int32).toNatClampNeg (.int (0 : Int32))) (own_upd (fun _ => .int 0) (0 : Int32).toNatClampNeg (.int (1 : Int32))) h0 n0 (Nat.le_trans Z0 (Keep.refl h0 [a1, at_, ah, as_, ae]).1) E_a1 F_table_a1 F_hashes_a1 F_starts_a1 F_ends_a1 F_values_a1 F_readings_a1 F_bytes_a1 F_count_a1 g_a1 A_at_ g_at_ A_ah g_ah A_as_ g_as_ A_ae g_ae (by omega) (by omega) (by omega) (by omega) (by omega) (by omega) (by omega) (own_spin _)) hZ (hw _ (List.mem_of_getElem? (i := 46) rfl)) (hw _ (List.mem_of_getElem? (i := 3) rfl)) (by decide) (by decide)) (g := (mkF m 101 #[.val (.ref a1), .val (.int (1 : Int32)), .val (.int (2 : Int32)), .val (.int (own_hb b1)), .val (.int (1023 : Int32)), .val (.int ((own_sp (own_hb b1)) &&& (1023 : Int32))), .unset] [(.int ((own_sp (own_hb b1)) &&& (1023 : Int32))), (.int (own_hb b1)), (.int (2 : Int32)), (.int (1 : Int32)), (.ref a1)])) rfl (by rw [hml]; rfl) (Steps.refl _) (a := a1) (by rw [ez4]; exact qz24) qz24b (argsL := [(.int (1 : Int32)), (.int (2 : Int32)), (.int (own_hb b1)), (.int ((own_sp (own_hb b1)) &&& (1023 : Int32)))]) (rest := []) (lenOf own_pd3 rfl) rfl (by show 2 * 0 + _ ≤ _; exact Nat.le_of_eq rfl) (hb hby own_d_prog_9_method_3_code_101) (fun _ _ => ⟨rfl, ez4, (by decide : 0 + 0 ≤ _), (by decide : 0 + 0 ≤ _)⟩)
    dsimp only [Pt.U, Pt.locs, Pt.cells, Pt.slots] at X24 lz24 yz24 zz24 st24 hQ24
    subst lz24 yz24 zz24
    obtain ⟨rfl, Nq24, Kq24, ff24_0, ff24_1, ff24_2, ff24_3, ff24_4, ff24_5, ff24_6, ff24_7, ff24_8, ff24_9, ff24_10, ff24_11⟩ := hQ24
    have N24 := Fr.app N3 Nq24
    have Ex_25 := E_a1.keep Kq24
    have Af_26 := A_ab.keep Kq24 (ninS (show @Ne Nat ab a1 by omega) (ninS (show @Ne Nat ab at_ by omega) (ninS (show @Ne Nat ab ah by omega) (ninS (show @Ne Nat ab as_ by omega) (ninS (show @Ne Nat ab ae by omega) nin0)))))
    have K_27 : Keep h0 T24.heap [a1, at_, ah, as_, ae] := (Keep.refl h0 [a1, at_, ah, as_, ae]).trans Kq24 (allS (Or.inl (List.mem_of_getElem? (i := 0) rfl)) (allS (Or.inl (List.mem_of_getElem? (i := 1) rfl)) (allS (Or.inl (List.mem_of_getElem? (i := 2) rfl)) (allS (Or.inl (List.mem_of_getElem? (i := 3) rfl)) (allS (Or.inl (List.mem_of_getElem? (i := 4) rfl)) all0)))))
    refine OGo.tr st24 ?_
    show OGo p.tables e below _ (T24.setTop (mkF m 104 #[.val (.ref a1), .val (.int (1 : Int32)), .val (.int (2 : Int32)), .val (.int (own_hb b1)), .val (.int (1023 : Int32)), .val (.int ((own_sp (own_hb b1)) &&& (1023 : Int32))), .unset] [(.int (1 : Int32))]))
    refine OGo.fin X24 (v := some (.int (1 : Int32))) (fun h => by rw [Bd.returns] at h; cases h) hlk (fun fs hr => X24.ireturnOut hx Bd.returns rfl (Or.inl rfl) (hb hby own_d_prog_9_method_3_code_104) hr) ?_ (by decide) (by decide)
    show own_Q_rm9 Z a1 b0 b1 at_ ah as_ ae av ar ab kt kh ks ke kb h0 n0 _ T24.heap _
    skip
    exact ⟨_, rfl, by decide, N24, K_27, ff24_0, ff24_1, ff24_2, ff24_3, ff24_4, ff24_5, ff24_6⟩
theorem own_d_prog_9_method_2_code_0 : decode prog_9_method_2_code 0 = .ok (.iconst 1, 1) := by decide +kernel
theorem own_d_prog_9_method_2_code_1 : decode prog_9_method_2_code 1 = .ok (.istore_n 3, 1) := by decide +kernel
theorem own_d_prog_9_method_2_code_2 : decode prog_9_method_2_code 2 = .ok (.iload_n 1, 1) := by decide +kernel
theorem own_d_prog_9_method_2_code_3 : decode prog_9_method_2_code 3 = .ok (.istore 4, 2) := by decide +kernel
theorem own_d_prog_9_method_2_code_5 : decode prog_9_method_2_code 5 = .ok (.iload 4, 2) := by decide +kernel
theorem own_d_prog_9_method_2_code_7 : decode prog_9_method_2_code 7 = .ok (.iload_n 2, 1) := by decide +kernel
theorem own_d_prog_9_method_2_code_8 : decode prog_9_method_2_code 8 = .ok (.if_icmp .ge 22, 3) := by decide +kernel
theorem own_d_prog_9_method_2_code_11 : decode prog_9_method_2_code 11 = .ok (.bipush 31, 2) := by decide +kernel
theorem own_d_prog_9_method_2_code_13 : decode prog_9_method_2_code 13 = .ok (.iload_n 3, 1) := by decide +kernel
theorem own_d_prog_9_method_2_code_14 : decode prog_9_method_2_code 14 = .ok (.imul, 1) := by decide +kernel
theorem own_d_prog_9_method_2_code_15 : decode prog_9_method_2_code 15 = .ok (.aload_n 0, 1) := by decide +kernel
theorem own_d_prog_9_method_2_code_16 : decode prog_9_method_2_code 16 = .ok (.getfield 35, 3) := by decide +kernel
theorem own_d_prog_9_method_2_code_19 : decode prog_9_method_2_code 19 = .ok (.iload 4, 2) := by decide +kernel
theorem own_d_prog_9_method_2_code_21 : decode prog_9_method_2_code 21 = .ok (.baload, 1) := by decide +kernel
theorem own_d_prog_9_method_2_code_22 : decode prog_9_method_2_code 22 = .ok (.iadd, 1) := by decide +kernel
theorem own_d_prog_9_method_2_code_23 : decode prog_9_method_2_code 23 = .ok (.istore_n 3, 1) := by decide +kernel
theorem own_d_prog_9_method_2_code_24 : decode prog_9_method_2_code 24 = .ok (.iinc 4 1, 3) := by decide +kernel
theorem own_d_prog_9_method_2_code_27 : decode prog_9_method_2_code 27 = .ok (.goto (-22), 3) := by decide +kernel
theorem own_d_prog_9_method_2_code_30 : decode prog_9_method_2_code 30 = .ok (.aload_n 0, 1) := by decide +kernel
theorem own_d_prog_9_method_2_code_31 : decode prog_9_method_2_code 31 = .ok (.iload_n 1, 1) := by decide +kernel
theorem own_d_prog_9_method_2_code_32 : decode prog_9_method_2_code 32 = .ok (.iload_n 2, 1) := by decide +kernel
theorem own_d_prog_9_method_2_code_33 : decode prog_9_method_2_code 33 = .ok (.iload_n 3, 1) := by decide +kernel
theorem own_d_prog_9_method_2_code_34 : decode prog_9_method_2_code 34 = .ok (.invokevirtual 39, 3) := by decide +kernel
theorem own_pd5 : parseMethodDescriptor "(III)I" = some ⟨[.int, .int, .int], some .int⟩ := by decide +kernel
theorem own_sel1 (Z : State) (a0 : Array Value) (hw : ∀ d ∈ tables_1, d.before a0 Z = true) : (Jvm.Cond.selects "com/example/nodal_ledger/nodalledger/csv/DistinctFields" (⟨"com/example/nodal_ledger/nodalledger/csv/DistinctFields", "slot", "(III)I"⟩ : MethodName) (⟨"com/example/nodal_ledger/nodalledger/csv/DistinctFields", "slot", "(III)I"⟩ : MethodName)).before a0 Z = true := own_selfsel (y := (⟨"com/example/nodal_ledger/nodalledger/csv/DistinctFields", "slot", "(III)I"⟩ : MethodName)) (y0 := (⟨"com/example/nodal_ledger/nodalledger/csv/DistinctFields", "slot", "(II)I"⟩ : MethodName)) (hw _ (List.mem_of_getElem? (i := 34) rfl)) rfl (hw _ (List.mem_of_getElem? (i := 37) rfl)) (hw _ (List.mem_of_getElem? (i := 38) rfl)) (by decide)
theorem own_d_prog_9_method_2_code_37 : decode prog_9_method_2_code 37 = .ok (.ireturn, 1) := by decide +kernel
theorem own_ef_rm10 (m : MethodId) (x0 : Addr) (x1 : Int32) (x2 : Int32) : entryFrame m #[(.ref x0), (.int x1), (.int x2)] 5 = mkF m 0 #[.val (.ref x0), .val (.int x1), .val (.int x2), .unset, .unset] [] := by first | (simp [entryFrame, mkF, argsToLocals, Value.category]; done) | rfl
def own_Q_rm10 (Z : State) (a1 : Addr) (b0 b1 : Int32) (at_ ah as_ ae av ar ab : Addr) (kt kh ks ke kb : ClassId) (h0 : Heap) (n0 : Nat) (v : Option Value) (h : Heap) (L : List Loc) : Prop := v = some (.int 0) ∧ Fr n0 L ∧ Keep h0 h [a1, at_, ah, as_, ae] ∧ Fld Z h a1 "com/example/nodal_ledger/nodalledger/csv/DistinctFields" "table" "[I" (.ref at_) ∧ Fld Z h a1 "com/example/nodal_ledger/nodalledger/csv/DistinctFields" "hashes" "[I" (.ref ah) ∧ Fld Z h a1 "com/example/nodal_ledger/nodalledger/csv/DistinctFields" "starts" "[I" (.ref as_) ∧ Fld Z h a1 "com/example/nodal_ledger/nodalledger/csv/DistinctFields" "ends" "[I" (.ref ae) ∧ Fld Z h a1 "com/example/nodal_ledger/nodalledger/csv/DistinctFields" "values" "[Ljava/lang/Object;" (.ref av) ∧ Fld Z h a1 "com/example/nodal_ledger/nodalledger/csv/DistinctFields" "readings" "[Ljava/lang/Object;" (.ref ar) ∧ Fld Z h a1 "com/example/nodal_ledger/nodalledger/csv/DistinctFields" "bytes" "[B" (.ref ab) ∧ Fld Z h a1 "com/example/nodal_ledger/nodalledger/csv/DistinctFields" "count" "I" (.int (1 : Int32)) ∧ Arf Z h at_ kt .int 1024 (own_upd (fun _ => .int 0) (own_sp (own_hb b0) &&& (1023 : Int32)).toNatClampNeg (.int (1 : Int32))) ∧ Arf Z h ah kh .int 512 (own_upd (fun _ => .int 0) (0 : Int32).toNatClampNeg (.int (own_hb b0))) ∧ Arf Z h as_ ks .int 512 (own_upd (fun _ => .int 0) (0 : Int32).toNatClampNeg (.int (0 : Int32))) ∧ Arf Z h ae ke .int 512 (own_upd (fun _ => .int 0) (0 : Int32).toNatClampNeg (.int (1 : Int32)))
set_option maxRecDepth 65536 in
set_option maxHeartbeats 40000000 in
theorem rm10 (l : Launch) (Z : State) (a0 : Array Value) (hw : ∀ d ∈ tables_1, d.before a0 Z = true) (ws : List Jvm.Cond) (a1 : Addr) (b0 b1 : Int32) (at_ ah as_ ae av ar ab : Addr) (kt kh ks ke kb : ClassId) (h0 : Heap) (n0 : Nat) (Z0 : n0 ≤ h0.size) (E_a1 : Exa Z h0 a1 "com/example/nodal_ledger/nodalledger/csv/DistinctFields") (F_table_a1 : Fld Z h0 a1 "com/example/nodal_ledger/nodalledger/csv/DistinctFields" "table" "[I" (.ref at_)) (F_hashes_a1 : Fld Z h0 a1 "com/example/nodal_ledger/nodalledger/csv/DistinctFields" "hashes" "[I" (.ref ah)) (F_starts_a1 : Fld Z h0 a1 "com/example/nodal_ledger/nodalledger/csv/DistinctFields" "starts" "[I" (.ref as_)) (F_ends_a1 : Fld Z h0 a1 "com/example/nodal_ledger/nodalledger/csv/DistinctFields" "ends" "[I" (.ref ae)) (F_values_a1 : Fld Z h0 a1 "com/example/nodal_ledger/nodalledger/csv/DistinctFields" "values" "[Ljava/lang/Object;" (.ref av)) (F_readings_a1 : Fld Z h0 a1 "com/example/nodal_ledger/nodalledger/csv/DistinctFields" "readings" "[Ljava/lang/Object;" (.ref ar)) (F_bytes_a1 : Fld Z h0 a1 "com/example/nodal_ledger/nodalledger/csv/DistinctFields" "bytes" "[B" (.ref ab)) (F_count_a1 : Fld Z h0 a1 "com/example/nodal_ledger/nodalledger/csv/DistinctFields" "count" "I" (.int (0 : Int32))) (g_a1 : n0 ≤ a1) (A_at_ : Arf Z h0 at_ kt .int 1024 (fun _ => .int 0)) (g_at_ : n0 ≤ at_) (A_ah : Arf Z h0 ah kh .int 512 (fun _ => .int 0)) (g_ah : n0 ≤ ah) (A_as_ : Arf Z h0 as_ ks .int 512 (fun _ => .int 0)) (g_as_ : n0 ≤ as_) (A_ae : Arf Z h0 ae ke .int 512 (fun _ => .int 0)) (g_ae : n0 ≤ ae) (A_ab : Arf Z h0 ab kb .byte 2 (own_B b0 b1)) (lc0 : Nat.succ ab ≤ a1) (lc1 : Nat.succ a1 ≤ at_) (lc2 : Nat.succ at_ ≤ ah) (lc3 : Nat.succ ah ≤ as_) (lc4 : Nat.succ as_ ≤ ae) (lc5 : Nat.succ ae ≤ av) (lc6 : Nat.succ av ≤ ar) :
    OMet l Z (⟨"com/example/nodal_ledger/nodalledger/csv/DistinctFields", "slot", "(II)I"⟩ : MethodName) prog_9_method_2_code 5 (some .int) ws ({ frames := 2, cells := 0, slots := 0, locals := 35 } : Room) #[(.ref a1), (.int (0 : Int32)), (.int (1 : Int32))] h0 (own_Q_rm10 Z a1 b0 b1 at_ ah as_ ae av ar ab kt kh ks ke kb h0 n0) := by
  refine MetFree.of_bodySF (plainFor_of_name own_pn0) hisR ?_
  intro p e s m args below meth c s₁ Bd hml0 hP hK
  obtain ⟨rfl, hZ, hh⟩ := hP
  have hx := Bd.exec
  have hby := Bd.bytes
  have hml : c.maxLocals = 5 := hml0
  have hown : s.vm.findClass "com/example/nodal_ledger/nodalledger/csv/DistinctFields" = some m.cls := findClass_of_methodNamed Bd.named
  have hnm := (name_of_methodNamed Bd.named Bd.method).1
  have hlk : meth.locks = false := Bd.notSynchronized
  have X0 : Stand p l e ({ frames := 2, cells := 0, slots := 0, locals := 35 } : Room) s m #[(.ref a1), (.int (0 : Int32)), (.int (1 : Int32))] below meth c s₁ [] 0 0 := Stand.of_body Bd
  have e0 : s₁.heap = h0 := by rw [← hh, Bd.state]; rfl
  have N0 := Fr.nil n0
  refine OGo.enter (P := OPost s (own_Q_rm10 Z a1 b0 b1 at_ ah as_ ae av ar ab kt kh ks ke kb h0 n0) 0 0) (own_ef_rm10 m a1 (0 : Int32) (1 : Int32)) ?_
  show OGo p.tables e below _ (s₁.setTop (mkF m 0 #[.val (.ref a1), .val (.int (0 : Int32)), .val (.int (1 : Int32)), .unset, .unset] []))
  refine OGo.st (fun _ k_ => XS.iconst X0.here hx rfl (hb hby own_d_prog_9_method_2_code_0) k_) ?_
  show OGo p.tables e below _ (s₁.setTop (mkF m 1 #[.val (.ref a1), .val (.int (0 : Int32)), .val (.int (1 : Int32)), .unset, .unset] [(.int (1 : Int32))]))
  refine OGo.st (fun _ k_ => XS.istoreN X0.here hx rfl (hb hby own_d_prog_9_method_2_code_1) rfl (l' := #[.val (.ref a1), .val (.int (0 : Int32)), .val (.int (1 : Int32)), .val (.int (1 : Int32)), .unset]) rfl k_) ?_
  show OGo p.tables e below _ (s₁.setTop (mkF m 2 #[.val (.ref a1), .val (.int (0 : Int32)), .val (.int (1 : Int32)), .val (.int (1 : Int32)), .unset] []))
  refine OGo.st (fun _ k_ => XS.iloadN X0.here hx rfl (hb hby own_d_prog_9_method_2_code_2) rfl k_) ?_
  show OGo p.tables e below _ (s₁.setTop (mkF m 3 #[.val (.ref a1), .val (.int (0 : Int32)), .val (.int (1 : Int32)), .val (.int (1 : Int32)), .unset] [(.int (0 : Int32))]))
  refine OGo.st (fun _ k_ => XS.istore X0.here hx rfl (hb hby own_d_prog_9_method_2_code_3) rfl (l' := #[.val (.ref a1), .val (.int (0 : Int32)), .val (.int (1 : Int32)), .val (.int (1 : Int32)), .val (.int (0 : Int32))]) rfl k_) ?_
  show OGo p.tables e below _ (s₁.setTop (mkF m 5 #[.val (.ref a1), .val (.int (0 : Int32)), .val (.int (1 : Int32)), .val (.int (1 : Int32)), .val (.int (0 : Int32))] []))
  refine OGo.st (fun _ k_ => XS.iload X0.here hx rfl (hb hby own_d_prog_9_method_2_code_5) rfl k_) ?_
  show OGo p.tables e below _ (s₁.setTop (mkF m 7 #[.val (.ref a1), .val (.int (0 : Int32)), .val (.int (1 : Int32)), .val (.int (1 : Int32)), .val (.int (0 : Int32))] [(.int (0 : Int32))]))
  refine OGo.st (fun _ k_ => XS.iloadN X0.here hx rfl (hb hby own_d_prog_9_method_2_code_7) rfl k_) ?_
  show OGo p.tables e below _ (s₁.setTop (mkF m 8 #[.val (.ref a1), .val (.int (0 : Int32)), .val (.int (1 : Int32)), .val (.int (1 : Int32)), .val (.int (0 : Int32))] [(.int (1 : Int32)), (.int (0 : Int32))]))
  refine OGo.st (fun _ k_ => XS.icmpNo X0.here hx rfl (hb hby own_d_prog_9_method_2_code_8) rfl (XT.ii_ge_f (by decide)) k_) ?_
  show OGo p.tables e below _ (s₁.setTop (mkF m 11 #[.val (.ref a1), .val (.int (0 : Int32)), .val (.int (1 : Int32)), .val (.int (1 : Int32)), .val (.int (0 : Int32))] []))
  refine OGo.st (fun _ k_ => XS.bipush X0.here hx rfl (hb hby own_d_prog_9_method_2_code_11) k_) ?_
  show OGo p.tables e below _ (s₁.setTop (mkF m 13 #[.val (.ref a1), .val (.int (0 : Int32)), .val (.int (1 : Int32)), .val (.int (1 : Int32)), .val (.int (0 : Int32))] [(.int (31 : Int32))]))
  refine OGo.st (fun _ k_ => XS.iloadN X0.here hx rfl (hb hby own_d_prog_9_method_2_code_13) rfl k_) ?_
  show OGo p.tables e below _ (s₁.setTop (mkF m 14 #[.val (.ref a1), .val (.int (0 : Int32)), .val (.int (1 : Int32)), .val (.int (1 : Int32)), .val (.int (0 : Int32))] [(.int (1 : Int32)), (.int (31 : Int32))]))
  refine OGo.st (fun _ k_ => XS.imul X0.here hx rfl (hb hby own_d_prog_9_method_2_code_14) rfl k_) ?_
  show OGo p.tables e below _ (s₁.setTop (mkF m 15 #[.val (.ref a1), .val (.int (0 : Int32)), .val (.int (1 : Int32)), .val (.int (1 : Int32)), .val (.int (0 : Int32))] [(.int (31 : Int32))]))
  refine OGo.st (fun _ k_ => XS.aloadN X0.here hx rfl (hb hby own_d_prog_9_method_2_code_15) rfl rfl k_) ?_
  show OGo p.tables e below _ (s₁.setTop (mkF m 16 #[.val (.ref a1), .val (.int (0 : Int32)), .val (.int (1 : Int32)), .val (.int (1 : Int32)), .val (.int (0 : Int32))] [(.ref a1), (.int (31 : Int32))]))
  obtain ⟨T1, X1, ez1, st1⟩ := getF X0 hx hZ hown (host := "") (Or.inl (hw _ (List.mem_of_getElem? (i := 29) rfl))) Via.refl e0 F_bytes_a1 (g := (mkF m 16 #[.val (.ref a1), .val (.int (0 : Int32)), .val (.int (1 : Int32)), .val (.int (1 : Int32)), .val (.int (0 : Int32))] [(.ref a1), (.int (31 : Int32))])) rfl rfl (hb hby own_d_prog_9_method_2_code_16)
  refine OGo.st st1 ?_
  show OGo p.tables e below _ (T1.setTop (mkF m 19 #[.val (.ref a1), .val (.int (0 : Int32)), .val (.int (1 : Int32)), .val (.int (1 : Int32)), .val (.int (0 : Int32))] [(.ref ab), (.int (31 : Int32))]))
  refine OGo.st (fun _ k_ => XS.iload X1.here hx rfl (hb hby own_d_prog_9_method_2_code_19) rfl k_) ?_
  show OGo p.tables e below _ (T1.setTop (mkF m 21 #[.val (.ref a1), .val (.int (0 : Int32)), .val (.int (1 : Int32)), .val (.int (1 : Int32)), .val (.int (0 : Int32))] [(.int (0 : Int32)), (.ref ab), (.int (31 : Int32))]))
  have qz2 := own_ldB X1 hx hZ ez1 A_ab (j := (0 : Int32)) (v := b0) (by decide) rfl (g := (mkF m 21 #[.val (.ref a1), .val (.int (0 : Int32)), .val (.int (1 : Int32)), .val (.int (1 : Int32)), .val (.int (0 : Int32))] [(.int (0 : Int32)), (.ref ab), (.int (31 : Int32))])) rfl rfl (hb hby own_d_prog_9_method_2_code_21)
  refine OGo.st qz2 ?_
  show OGo p.tables e below _ (T1.setTop (mkF m 22 #[.val (.ref a1), .val (.int (0 : Int32)), .val (.int (1 : Int32)), .val (.int (1 : Int32)), .val (.int (0 : Int32))] [(.int b0), (.int (31 : Int32))]))
  refine OGo.st (fun _ k_ => XS.iadd X1.here hx rfl (hb hby own_d_prog_9_method_2_code_22) rfl k_) ?_
  show OGo p.tables e below _ (T1.setTop (mkF m 23 #[.val (.ref a1), .val (.int (0 : Int32)), .val (.int (1 : Int32)), .val (.int (1 : Int32)), .val (.int (0 : Int32))] [(.int ((31 : Int32) + b0))]))
  refine OGo.st (fun _ k_ => XS.istoreN X1.here hx rfl (hb hby own_d_prog_9_method_2_code_23) rfl (l' := #[.val (.ref a1), .val (.int (0 : Int32)), .val (.int (1 : Int32)), .val (.int ((31 : Int32) + b0)), .val (.int (0 : Int32))]) rfl k_) ?_
  show OGo p.tables e below _ (T1.setTop (mkF m 24 #[.val (.ref a1), .val (.int (0 : Int32)), .val (.int (1 : Int32)), .val (.int ((31 : Int32) + b0)), .val (.int (0 : Int32))] []))
  refine OGo.st (fun _ k_ => XS.iinc X1.here hx rfl (hb hby own_d_prog_9_method_2_code_24) rfl (l' := #[.val (.ref a1), .val (.int (0 : Int32)), .val (.int (1 : Int32)), .val (.int ((31 : Int32) + b0)), .val (.int (1 : Int32))]) rfl k_) ?_
  show OGo p.tables e below _ (T1.setTop (mkF m 27 #[.val (.ref a1), .val (.int (0 : Int32)), .val (.int (1 : Int32)), .val (.int ((31 : Int32) + b0)), .val (.int (1 : Int32))] []))
  refine OGo.st (fun _ k_ => XS.goto X1.here hx rfl (pc0 := 27) (pc' := 5) rfl (hb hby own_d_prog_9_method_2_code_27) (by decide) (by decide) k_) ?_
  show OGo p.tables e below _ (T1.setTop (mkF m 5 #[.val (.ref a1), .val (.int (0 : Int32)), .val (.int (1 : Int32)), .val (.int ((31 : Int32) + b0)), .val (.int (1 : Int32))] []))
  refine OGo.st (fun _ k_ => XS.iload X1.here hx rfl (hb hby own_d_prog_9_method_2_code_5) rfl k_) ?_
  show OGo p.tables e below _ (T1.setTop (mkF m 7 #[.val (.ref a1), .val (.int (0 : Int32)), .val (.int (1 : Int32)), .val (.int ((31 : Int32) + b0)), .val (.int (1 : Int32))] [(.int (1 : Int32))]))
  refine OGo.st (fun _ k_ => XS.iloadN X1.here hx rfl (hb hby own_d_prog_9_method_2_code_7) rfl k_) ?_
  show OGo p.tables e below _ (T1.setTop (mkF m 8 #[.val (.ref a1), .val (.int (0 : Int32)), .val (.int (1 : Int32)), .val (.int ((31 : Int32) + b0)), .val (.int (1 : Int32))] [(.int (1 : Int32)), (.int (1 : Int32))]))
  refine OGo.st (fun _ k_ => XS.icmpYes X1.here hx rfl (pc0 := 8) (pc' := 30) rfl (hb hby own_d_prog_9_method_2_code_8) rfl (XT.ii_ge_t (by decide)) (by decide) (by decide) k_) ?_
  show OGo p.tables e below _ (T1.setTop (mkF m 30 #[.val (.ref a1), .val (.int (0 : Int32)), .val (.int (1 : Int32)), .val (.int ((31 : Int32) + b0)), .val (.int (1 : Int32))] []))
  refine OGo.st (fun _ k_ => XS.aloadN X1.here hx rfl (hb hby own_d_prog_9_method_2_code_30) rfl rfl k_) ?_
  show OGo p.tables e below _ (T1.setTop (mkF m 31 #[.val (.ref a1), .val (.int (0 : Int32)), .val (.int (1 : Int32)), .val (.int ((31 : Int32) + b0)), .val (.int (1 : Int32))] [(.ref a1)]))
  refine OGo.st (fun _ k_ => XS.iloadN X1.here hx rfl (hb hby own_d_prog_9_method_2_code_31) rfl k_) ?_
  show OGo p.tables e below _ (T1.setTop (mkF m 32 #[.val (.ref a1), .val (.int (0 : Int32)), .val (.int (1 : Int32)), .val (.int ((31 : Int32) + b0)), .val (.int (1 : Int32))] [(.int (0 : Int32)), (.ref a1)]))
  refine OGo.st (fun _ k_ => XS.iloadN X1.here hx rfl (hb hby own_d_prog_9_method_2_code_32) rfl k_) ?_
  show OGo p.tables e below _ (T1.setTop (mkF m 33 #[.val (.ref a1), .val (.int (0 : Int32)), .val (.int (1 : Int32)), .val (.int ((31 : Int32) + b0)), .val (.int (1 : Int32))] [(.int (1 : Int32)), (.int (0 : Int32)), (.ref a1)]))
  refine OGo.st (fun _ k_ => XS.iloadN X1.here hx rfl (hb hby own_d_prog_9_method_2_code_33) rfl k_) ?_
  show OGo p.tables e below _ (T1.setTop (mkF m 34 #[.val (.ref a1), .val (.int (0 : Int32)), .val (.int (1 : Int32)), .val (.int ((31 : Int32) + b0)), .val (.int (1 : Int32))] [(.int ((31 : Int32) + b0)), (.int (1 : Int32)), (.int (0 : Int32)), (.ref a1)]))
  obtain ⟨cq3, qz3, qz3b⟩ := E_a1.cell
  obtain ⟨_, _, ⟨T3, Lz3, kz3, nz3⟩, -, X3, ⟨Lc3, hQ3, lz3, yz3, zz3⟩, st3⟩ := X1.privateBack hx (y := (⟨"com/example/nodal_ledger/nodalledger/csv/DistinctFields", "slot", "(III)I"⟩ : MethodName)) hown (mvT hZ (hw _ (List.mem_of_getElem? (i := 36) rfl))) (mvT hZ (hw _ (List.mem_of_getElem? (i := 37) rfl))) (mvT hZ (own_sel1 Z a0 hw)) (Cond.privateMethod_at (mvP hZ (hw _ (List.mem_of_getElem? (i := 38) rfl)) (args := #[]))) (mvT hZ (hw _ (List.mem_of_getElem? (i := 39) rfl))) (by decide) (backOf (W := 0) (rm8 l Z a0 hw [] a1 (own_hb b0) at_ ah as_ ae av ar ab kt kh ks ke h0 n0 (Nat.le_trans Z0 (Keep.refl h0 [a1, at_, ah, as_, ae]).1) E_a1 F_table_a1 F_hashes_a1 F_starts_a1 F_ends_a1 F_values_a1 F_readings_a1 F_bytes_a1 F_count_a1 g_a1 A_at_ g_at_ A_ah g_ah A_as_ g_as_ A_ae g_ae (by omega) (by omega) (by omega) (by omega) (by omega) (by omega) (by omega)) hZ (hw _ (List.mem_of_getElem? (i := 39) rfl)) (hw _ (List.mem_of_getElem? (i := 3) rfl)) (by decide) (by decide)) (g := (mkF m 34 #[.val (.ref a1), .val (.int (0 : Int32)), .val (.int (1 : Int32)), .val (.int ((31 : Int32) + b0)), .val (.int (1 : Int32))] [(.int ((31 : Int32) + b0)), (.int (1 : Int32)), (.int (0 : Int32)), (.ref a1)])) rfl (by rw [hml]; rfl) (Steps.refl _) (a := a1) (by rw [ez1]; exact qz3) qz3b (argsL := [(.int (0 : Int32)), (.int (1 : Int32)), (.int ((31 : Int32) + b0))]) (rest := []) (lenOf own_pd5 rfl) rfl (by show 2 * 0 + _ ≤ _; exact Nat.le_of_eq rfl) (hb hby own_d_prog_9_method_2_code_34) (fun _ _ => ⟨rfl, ez1, (by decide : 0 + 0 ≤ _), (by decide : 0 + 0 ≤ _)⟩)
  dsimp only [Pt.U, Pt.locs, Pt.cells, Pt.slots] at X3 lz3 yz3 zz3 st3 hQ3
  subst lz3 yz3 zz3
  obtain ⟨rfl, Nq3, Kq3, ff3_0, ff3_1, ff3_2, ff3_3, ff3_4, ff3_5, ff3_6, ff3_7, ff3_8, ff3_9, ff3_10, ff3_11⟩ := hQ3
  have N3 := Fr.app N0 Nq3
  have Ex_4 := E_a1.keep Kq3
  have Af_5 := A_ab.keep Kq3 (ninS (show @Ne Nat ab a1 by omega) (ninS (show @Ne Nat ab at_ by omega) (ninS (show @Ne Nat ab ah by omega) (ninS (show @Ne Nat ab as_ by omega) (ninS (show @Ne Nat ab ae by omega) nin0)))))
  have K_6 : Keep h0 T3.heap [a1, at_, ah, as_, ae] := (Keep.refl h0 [a1, at_, ah, as_, ae]).trans Kq3 (allS (Or.inl (List.mem_of_getElem? (i := 0) rfl)) (allS (Or.inl (List.mem_of_getElem? (i := 1) rfl)) (allS (Or.inl (List.mem_of_getElem? (i := 2) rfl)) (allS (Or.inl (List.mem_of_getElem? (i := 3) rfl)) (allS (Or.inl (List.mem_of_getElem? (i := 4) rfl)) all0)))))
  refine OGo.tr st3 ?_
  show OGo p.tables e below _ (T3.setTop (mkF m 37 #[.val (.ref a1), .val (.int (0 : Int32)), .val (.int (1 : Int32)), .val (.int ((31 : Int32) + b0)), .val (.int (1 : Int32))] [(.int (0 : Int32))]))
  refine OGo.fin X3 (v := some (.int (0 : Int32))) (fun h => by rw [Bd.returns] at h; cases h) hlk (fun fs hr => X3.ireturnOut hx Bd.returns rfl (Or.inl rfl) (hb hby own_d_prog_9_method_2_code_37) hr) ?_ (by decide) (by decide)
  show own_Q_rm10 Z a1 b0 b1 at_ ah as_ ae av ar ab kt kh ks ke kb h0 n0 _ T3.heap _
  skip
  exact ⟨rfl, N3, K_6, ff3_0, ff3_1, ff3_2, ff3_3, ff3_4, ff3_5, ff3_6, ff3_7, ff3_8, ff3_9, ff3_10, ff3_11⟩
theorem own_ef_rm11 (m : MethodId) (x0 : Addr) (x1 : Int32) (x2 : Int32) : entryFrame m #[(.ref x0), (.int x1), (.int x2)] 5 = mkF m 0 #[.val (.ref x0), .val (.int x1), .val (.int x2), .unset, .unset] [] := by first | (simp [entryFrame, mkF, argsToLocals, Value.category]; done) | rfl
def own_Q_rm11 (Z : State) (a1 : Addr) (b0 b1 : Int32) (at_ ah as_ ae av ar ab : Addr) (kt kh ks ke kb : ClassId) (h0 : Heap) (n0 : Nat) (v : Option Value) (h : Heap) (L : List Loc) : Prop := ∃ s1 : Int32, v = some (.int s1) ∧ (s1 = 0 ∨ s1 = 1) ∧ Fr n0 L ∧ Keep h0 h [a1, at_, ah, as_, ae] ∧ Fld Z h a1 "com/example/nodal_ledger/nodalledger/csv/DistinctFields" "table" "[I" (.ref at_) ∧ Fld Z h a1 "com/example/nodal_ledger/nodalledger/csv/DistinctFields" "hashes" "[I" (.ref ah) ∧ Fld Z h a1 "com/example/nodal_ledger/nodalledger/csv/DistinctFields" "starts" "[I" (.ref as_) ∧ Fld Z h a1 "com/example/nodal_ledger/nodalledger/csv/DistinctFields" "ends" "[I" (.ref ae) ∧ Fld Z h a1 "com/example/nodal_ledger/nodalledger/csv/DistinctFields" "values" "[Ljava/lang/Object;" (.ref av) ∧ Fld Z h a1 "com/example/nodal_ledger/nodalledger/csv/DistinctFields" "readings" "[Ljava/lang/Object;" (.ref ar) ∧ Fld Z h a1 "com/example/nodal_ledger/nodalledger/csv/DistinctFields" "bytes" "[B" (.ref ab)
set_option maxRecDepth 65536 in
set_option maxHeartbeats 40000000 in
theorem rm11 (l : Launch) (Z : State) (a0 : Array Value) (hw : ∀ d ∈ tables_1, d.before a0 Z = true) (ws : List Jvm.Cond) (a1 : Addr) (b0 b1 : Int32) (at_ ah as_ ae av ar ab : Addr) (kt kh ks ke kb : ClassId) (h0 : Heap) (n0 : Nat) (Z0 : n0 ≤ h0.size) (E_a1 : Exa Z h0 a1 "com/example/nodal_ledger/nodalledger/csv/DistinctFields") (F_table_a1 : Fld Z h0 a1 "com/example/nodal_ledger/nodalledger/csv/DistinctFields" "table" "[I" (.ref at_)) (F_hashes_a1 : Fld Z h0 a1 "com/example/nodal_ledger/nodalledger/csv/DistinctFields" "hashes" "[I" (.ref ah)) (F_starts_a1 : Fld Z h0 a1 "com/example/nodal_ledger/nodalledger/csv/DistinctFields" "starts" "[I" (.ref as_)) (F_ends_a1 : Fld Z h0 a1 "com/example/nodal_ledger/nodalledger/csv/DistinctFields" "ends" "[I" (.ref ae)) (F_values_a1 : Fld Z h0 a1 "com/example/nodal_ledger/nodalledger/csv/DistinctFields" "values" "[Ljava/lang/Object;" (.ref av)) (F_readings_a1 : Fld Z h0 a1 "com/example/nodal_ledger/nodalledger/csv/DistinctFields" "readings" "[Ljava/lang/Object;" (.ref ar)) (F_bytes_a1 : Fld Z h0 a1 "com/example/nodal_ledger/nodalledger/csv/DistinctFields" "bytes" "[B" (.ref ab)) (F_count_a1 : Fld Z h0 a1 "com/example/nodal_ledger/nodalledger/csv/DistinctFields" "count" "I" (.int (1 : Int32))) (g_a1 : n0 ≤ a1) (A_at_ : Arf Z h0 at_ kt .int 1024 (own_upd (fun _ => .int 0) (own_sp (own_hb b0) &&& (1023 : Int32)).toNatClampNeg (.int (1 : Int32)))) (g_at_ : n0 ≤ at_) (A_ah : Arf Z h0 ah kh .int 512 (own_upd (fun _ => .int 0) (0 : Int32).toNatClampNeg (.int (own_hb b0)))) (g_ah : n0 ≤ ah) (A_as_ : Arf Z h0 as_ ks .int 512 (own_upd (fun _ => .int 0) (0 : Int32).toNatClampNeg (.int (0 : Int32)))) (g_as_ : n0 ≤ as_) (A_ae : Arf Z h0 ae ke .int 512 (own_upd (fun _ => .int 0) (0 : Int32).toNatClampNeg (.int (1 : Int32)))) (g_ae : n0 ≤ ae) (A_ab : Arf Z h0 ab kb .byte 2 (own_B b0 b1)) (lc0 : Nat.succ ab ≤ a1) (lc1 : Nat.succ a1 ≤ at_) (lc2 : Nat.succ at_ ≤ ah) (lc3 : Nat.succ ah ≤ as_) (lc4 : Nat.succ as_ ≤ ae) (lc5 : Nat.succ ae ≤ av) (lc6 : Nat.succ av ≤ ar) :
    OMet l Z (⟨"com/example/nodal_ledger/nodalledger/csv/DistinctFields", "slot", "(II)I"⟩ : MethodName) prog_9_method_2_code 5 (some .int) ws ({ frames := 3, cells := 0, slots := 0, locals := 56 } : Room) #[(.ref a1), (.int (1 : Int32)), (.int (2 : Int32))] h0 (own_Q_rm11 Z a1 b0 b1 at_ ah as_ ae av ar ab kt kh ks ke kb h0 n0) := by
  refine MetFree.of_bodySF (plainFor_of_name own_pn0) hisR ?_
  intro p e s m args below meth c s₁ Bd hml0 hP hK
  obtain ⟨rfl, hZ, hh⟩ := hP
  have hx := Bd.exec
  have hby := Bd.bytes
  have hml : c.maxLocals = 5 := hml0
  have hown : s.vm.findClass "com/example/nodal_ledger/nodalledger/csv/DistinctFields" = some m.cls := findClass_of_methodNamed Bd.named
  have hnm := (name_of_methodNamed Bd.named Bd.method).1
  have hlk : meth.locks = false := Bd.notSynchronized
  have X0 : Stand p l e ({ frames := 3, cells := 0, slots := 0, locals := 56 } : Room) s m #[(.ref a1), (.int (1 : Int32)), (.int (2 : Int32))] below meth c s₁ [] 0 0 := Stand.of_body Bd
  have e0 : s₁.heap = h0 := by rw [← hh, Bd.state]; rfl
  have N0 := Fr.nil n0
  refine OGo.enter (P := OPost s (own_Q_rm11 Z a1 b0 b1 at_ ah as_ ae av ar ab kt kh ks ke kb h0 n0) 0 0) (own_ef_rm11 m a1 (1 : Int32) (2 : Int32)) ?_
  show OGo p.tables e below _ (s₁.setTop (mkF m 0 #[.val (.ref a1), .val (.int (1 : Int32)), .val (.int (2 : Int32)), .unset, .unset] []))
  refine OGo.st (fun _ k_ => XS.iconst X0.here hx rfl (hb hby own_d_prog_9_method_2_code_0) k_) ?_
  show OGo p.tables e below _ (s₁.setTop (mkF m 1 #[.val (.ref a1), .val (.int (1 : Int32)), .val (.int (2 : Int32)), .unset, .unset] [(.int (1 : Int32))]))
  refine OGo.st (fun _ k_ => XS.istoreN X0.here hx rfl (hb hby own_d_prog_9_method_2_code_1) rfl (l' := #[.val (.ref a1), .val (.int (1 : Int32)), .val (.int (2 : Int32)), .val (.int (1 : Int32)), .unset]) rfl k_) ?_
  show OGo p.tables e below _ (s₁.setTop (mkF m 2 #[.val (.ref a1), .val (.int (1 : Int32)), .val (.int (2 : Int32)), .val (.int (1 : Int32)), .unset] []))
  refine OGo.st (fun _ k_ => XS.iloadN X0.here hx rfl (hb hby own_d_prog_9_method_2_code_2) rfl k_) ?_
  show OGo p.tables e below _ (s₁.setTop (mkF m 3 #[.val (.ref a1), .val (.int (1 : Int32)), .val (.int (2 : Int32)), .val (.int (1 : Int32)), .unset] [(.int (1 : Int32))]))
  refine OGo.st (fun _ k_ => XS.istore X0.here hx rfl (hb hby own_d_prog_9_method_2_code_3) rfl (l' := #[.val (.ref a1), .val (.int (1 : Int32)), .val (.int (2 : Int32)), .val (.int (1 : Int32)), .val (.int (1 : Int32))]) rfl k_) ?_
  show OGo p.tables e below _ (s₁.setTop (mkF m 5 #[.val (.ref a1), .val (.int (1 : Int32)), .val (.int (2 : Int32)), .val (.int (1 : Int32)), .val (.int (1 : Int32))] []))
  refine OGo.st (fun _ k_ => XS.iload X0.here hx rfl (hb hby own_d_prog_9_method_2_code_5) rfl k_) ?_
  show OGo p.tables e below _ (s₁.setTop (mkF m 7 #[.val (.ref a1), .val (.int (1 : Int32)), .val (.int (2 : Int32)), .val (.int (1 : Int32)), .val (.int (1 : Int32))] [(.int (1 : Int32))]))
  refine OGo.st (fun _ k_ => XS.iloadN X0.here hx rfl (hb hby own_d_prog_9_method_2_code_7) rfl k_) ?_
  show OGo p.tables e below _ (s₁.setTop (mkF m 8 #[.val (.ref a1), .val (.int (1 : Int32)), .val (.int (2 : Int32)), .val (.int (1 : Int32)), .val (.int (1 : Int32))] [(.int (2 : Int32)), (.int (1 : Int32))]))
  refine OGo.st (fun _ k_ => XS.icmpNo X0.here hx rfl (hb hby own_d_prog_9_method_2_code_8) rfl (XT.ii_ge_f (by decide)) k_) ?_
  show OGo p.tables e below _ (s₁.setTop (mkF m 11 #[.val (.ref a1), .val (.int (1 : Int32)), .val (.int (2 : Int32)), .val (.int (1 : Int32)), .val (.int (1 : Int32))] []))
  refine OGo.st (fun _ k_ => XS.bipush X0.here hx rfl (hb hby own_d_prog_9_method_2_code_11) k_) ?_
  show OGo p.tables e below _ (s₁.setTop (mkF m 13 #[.val (.ref a1), .val (.int (1 : Int32)), .val (.int (2 : Int32)), .val (.int (1 : Int32)), .val (.int (1 : Int32))] [(.int (31 : Int32))]))
  refine OGo.st (fun _ k_ => XS.iloadN X0.here hx rfl (hb hby own_d_prog_9_method_2_code_13) rfl k_) ?_
  show OGo p.tables e below _ (s₁.setTop (mkF m 14 #[.val (.ref a1), .val (.int (1 : Int32)), .val (.int (2 : Int32)), .val (.int (1 : Int32)), .val (.int (1 : Int32))] [(.int (1 : Int32)), (.int (31 : Int32))]))
  refine OGo.st (fun _ k_ => XS.imul X0.here hx rfl (hb hby own_d_prog_9_method_2_code_14) rfl k_) ?_
  show OGo p.tables e below _ (s₁.setTop (mkF m 15 #[.val (.ref a1), .val (.int (1 : Int32)), .val (.int (2 : Int32)), .val (.int (1 : Int32)), .val (.int (1 : Int32))] [(.int (31 : Int32))]))
  refine OGo.st (fun _ k_ => XS.aloadN X0.here hx rfl (hb hby own_d_prog_9_method_2_code_15) rfl rfl k_) ?_
  show OGo p.tables e below _ (s₁.setTop (mkF m 16 #[.val (.ref a1), .val (.int (1 : Int32)), .val (.int (2 : Int32)), .val (.int (1 : Int32)), .val (.int (1 : Int32))] [(.ref a1), (.int (31 : Int32))]))
  obtain ⟨T1, X1, ez1, st1⟩ := getF X0 hx hZ hown (host := "") (Or.inl (hw _ (List.mem_of_getElem? (i := 29) rfl))) Via.refl e0 F_bytes_a1 (g := (mkF m 16 #[.val (.ref a1), .val (.int (1 : Int32)), .val (.int (2 : Int32)), .val (.int (1 : Int32)), .val (.int (1 : Int32))] [(.ref a1), (.int (31 : Int32))])) rfl rfl (hb hby own_d_prog_9_method_2_code_16)
  refine OGo.st st1 ?_
  show OGo p.tables e below _ (T1.setTop (mkF m 19 #[.val (.ref a1), .val (.int (1 : Int32)), .val (.int (2 : Int32)), .val (.int (1 : Int32)), .val (.int (1 : Int32))] [(.ref ab), (.int (31 : Int32))]))
  refine OGo.st (fun _ k_ => XS.iload X1.here hx rfl (hb hby own_d_prog_9_method_2_code_19) rfl k_) ?_
  show OGo p.tables e below _ (T1.setTop (mkF m 21 #[.val (.ref a1), .val (.int (1 : Int32)), .val (.int (2 : Int32)), .val (.int (1 : Int32)), .val (.int (1 : Int32))] [(.int (1 : Int32)), (.ref ab), (.int (31 : Int32))]))
  have qz2 := own_ldB X1 hx hZ ez1 A_ab (j := (1 : Int32)) (v := b1) (by decide) rfl (g := (mkF m 21 #[.val (.ref a1), .val (.int (1 : Int32)), .val (.int (2 : Int32)), .val (.int (1 : Int32)), .val (.int (1 : Int32))] [(.int (1 : Int32)), (.ref ab), (.int (31 : Int32))])) rfl rfl (hb hby own_d_prog_9_method_2_code_21)
  refine OGo.st qz2 ?_
  show OGo p.tables e below _ (T1.setTop (mkF m 22 #[.val (.ref a1), .val (.int (1 : Int32)), .val (.int (2 : Int32)), .val (.int (1 : Int32)), .val (.int (1 : Int32))] [(.int b1), (.int (31 : Int32))]))
  refine OGo.st (fun _ k_ => XS.iadd X1.here hx rfl (hb hby own_d_prog_9_method_2_code_22) rfl k_) ?_
  show OGo p.tables e below _ (T1.setTop (mkF m 23 #[.val (.ref a1), .val (.int (1 : Int32)), .val (.int (2 : Int32)), .val (.int (1 : Int32)), .val (.int (1 : Int32))] [(.int ((31 : Int32) + b1))]))
  refine OGo.st (fun _ k_ => XS.istoreN X1.here hx rfl (hb hby own_d_prog_9_method_2_code_23) rfl (l' := #[.val (.ref a1), .val (.int (1 : Int32)), .val (.int (2 : Int32)), .val (.int ((31 : Int32) + b1)), .val (.int (1 : Int32))]) rfl k_) ?_
  show OGo p.tables e below _ (T1.setTop (mkF m 24 #[.val (.ref a1), .val (.int (1 : Int32)), .val (.int (2 : Int32)), .val (.int ((31 : Int32) + b1)), .val (.int (1 : Int32))] []))
  refine OGo.st (fun _ k_ => XS.iinc X1.here hx rfl (hb hby own_d_prog_9_method_2_code_24) rfl (l' := #[.val (.ref a1), .val (.int (1 : Int32)), .val (.int (2 : Int32)), .val (.int ((31 : Int32) + b1)), .val (.int (2 : Int32))]) rfl k_) ?_
  show OGo p.tables e below _ (T1.setTop (mkF m 27 #[.val (.ref a1), .val (.int (1 : Int32)), .val (.int (2 : Int32)), .val (.int ((31 : Int32) + b1)), .val (.int (2 : Int32))] []))
  refine OGo.st (fun _ k_ => XS.goto X1.here hx rfl (pc0 := 27) (pc' := 5) rfl (hb hby own_d_prog_9_method_2_code_27) (by decide) (by decide) k_) ?_
  show OGo p.tables e below _ (T1.setTop (mkF m 5 #[.val (.ref a1), .val (.int (1 : Int32)), .val (.int (2 : Int32)), .val (.int ((31 : Int32) + b1)), .val (.int (2 : Int32))] []))
  refine OGo.st (fun _ k_ => XS.iload X1.here hx rfl (hb hby own_d_prog_9_method_2_code_5) rfl k_) ?_
  show OGo p.tables e below _ (T1.setTop (mkF m 7 #[.val (.ref a1), .val (.int (1 : Int32)), .val (.int (2 : Int32)), .val (.int ((31 : Int32) + b1)), .val (.int (2 : Int32))] [(.int (2 : Int32))]))
  refine OGo.st (fun _ k_ => XS.iloadN X1.here hx rfl (hb hby own_d_prog_9_method_2_code_7) rfl k_) ?_
  show OGo p.tables e below _ (T1.setTop (mkF m 8 #[.val (.ref a1), .val (.int (1 : Int32)), .val (.int (2 : Int32)), .val (.int ((31 : Int32) + b1)), .val (.int (2 : Int32))] [(.int (2 : Int32)), (.int (2 : Int32))]))
  refine OGo.st (fun _ k_ => XS.icmpYes X1.here hx rfl (pc0 := 8) (pc' := 30) rfl (hb hby own_d_prog_9_method_2_code_8) rfl (XT.ii_ge_t (by decide)) (by decide) (by decide) k_) ?_
  show OGo p.tables e below _ (T1.setTop (mkF m 30 #[.val (.ref a1), .val (.int (1 : Int32)), .val (.int (2 : Int32)), .val (.int ((31 : Int32) + b1)), .val (.int (2 : Int32))] []))
  refine OGo.st (fun _ k_ => XS.aloadN X1.here hx rfl (hb hby own_d_prog_9_method_2_code_30) rfl rfl k_) ?_
  show OGo p.tables e below _ (T1.setTop (mkF m 31 #[.val (.ref a1), .val (.int (1 : Int32)), .val (.int (2 : Int32)), .val (.int ((31 : Int32) + b1)), .val (.int (2 : Int32))] [(.ref a1)]))
  refine OGo.st (fun _ k_ => XS.iloadN X1.here hx rfl (hb hby own_d_prog_9_method_2_code_31) rfl k_) ?_
  show OGo p.tables e below _ (T1.setTop (mkF m 32 #[.val (.ref a1), .val (.int (1 : Int32)), .val (.int (2 : Int32)), .val (.int ((31 : Int32) + b1)), .val (.int (2 : Int32))] [(.int (1 : Int32)), (.ref a1)]))
  refine OGo.st (fun _ k_ => XS.iloadN X1.here hx rfl (hb hby own_d_prog_9_method_2_code_32) rfl k_) ?_
  show OGo p.tables e below _ (T1.setTop (mkF m 33 #[.val (.ref a1), .val (.int (1 : Int32)), .val (.int (2 : Int32)), .val (.int ((31 : Int32) + b1)), .val (.int (2 : Int32))] [(.int (2 : Int32)), (.int (1 : Int32)), (.ref a1)]))
  refine OGo.st (fun _ k_ => XS.iloadN X1.here hx rfl (hb hby own_d_prog_9_method_2_code_33) rfl k_) ?_
  show OGo p.tables e below _ (T1.setTop (mkF m 34 #[.val (.ref a1), .val (.int (1 : Int32)), .val (.int (2 : Int32)), .val (.int ((31 : Int32) + b1)), .val (.int (2 : Int32))] [(.int ((31 : Int32) + b1)), (.int (2 : Int32)), (.int (1 : Int32)), (.ref a1)]))
  obtain ⟨cq3, qz3, qz3b⟩ := E_a1.cell
  obtain ⟨_, _, ⟨T3, Lz3, kz3, nz3⟩, -, X3, ⟨Lc3, hQ3, lz3, yz3, zz3⟩, st3⟩ := X1.privateBack hx (y := (⟨"com/example/nodal_ledger/nodalledger/csv/DistinctFields", "slot", "(III)I"⟩ : MethodName)) hown (mvT hZ (hw _ (List.mem_of_getElem? (i := 36) rfl))) (mvT hZ (hw _ (List.mem_of_getElem? (i := 37) rfl))) (mvT hZ (own_sel1 Z a0 hw)) (Cond.privateMethod_at (mvP hZ (hw _ (List.mem_of_getElem? (i := 38) rfl)) (args := #[]))) (mvT hZ (hw _ (List.mem_of_getElem? (i := 39) rfl))) (by decide) (backOf (W := 0) (rm9 l Z a0 hw [] a1 b0 b1 at_ ah as_ ae av ar ab kt kh ks ke kb h0 n0 (Nat.le_trans Z0 (Keep.refl h0 [a1, at_, ah, as_, ae]).1) E_a1 F_table_a1 F_hashes_a1 F_starts_a1 F_ends_a1 F_values_a1 F_readings_a1 F_bytes_a1 F_count_a1 g_a1 A_at_ g_at_ A_ah g_ah A_as_ g_as_ A_ae g_ae A_ab (by omega) (by omega) (by omega) (by omega) (by omega) (by omega) (by omega)) hZ (hw _ (List.mem_of_getElem? (i := 39) rfl)) (hw _ (List.mem_of_getElem? (i := 3) rfl)) (by decide) (by decide)) (g := (mkF m 34 #[.val (.ref a1), .val (.int (1 : Int32)), .val (.int (2 : Int32)), .val (.int ((31 : Int32) + b1)), .val (.int (2 : Int32))] [(.int ((31 : Int32) + b1)), (.int (2 : Int32)), (.int (1 : Int32)), (.ref a1)])) rfl (by rw [hml]; rfl) (Steps.refl _) (a := a1) (by rw [ez1]; exact qz3) qz3b (argsL := [(.int (1 : Int32)), (.int (2 : Int32)), (.int ((31 : Int32) + b1))]) (rest := []) (lenOf own_pd5 rfl) rfl (by show 2 * 0 + _ ≤ _; exact Nat.le_of_eq rfl) (hb hby own_d_prog_9_method_2_code_34) (fun _ _ => ⟨rfl, ez1, (by decide : 0 + 0 ≤ _), (by decide : 0 + 0 ≤ _)⟩)
  dsimp only [Pt.U, Pt.locs, Pt.cells, Pt.slots] at X3 lz3 yz3 zz3 st3 hQ3
  subst lz3 yz3 zz3
  obtain ⟨sl3, rfl, hsl3, Nq3, Kq3, ff3_0, ff3_1, ff3_2, ff3_3, ff3_4, ff3_5, ff3_6⟩ := hQ3
  have N3 := Fr.app N0 Nq3
  have Ex_4 := E_a1.keep Kq3
  have Af_5 := A_ab.keep Kq3 (ninS (show @Ne Nat ab a1 by omega) (ninS (show @Ne Nat ab at_ by omega) (ninS (show @Ne Nat ab ah by omega) (ninS (show @Ne Nat ab as_ by omega) (ninS (show @Ne Nat ab ae by omega) nin0)))))
  have K_6 : Keep h0 T3.heap [a1, at_, ah, as_, ae] := (Keep.refl h0 [a1, at_, ah, as_, ae]).trans Kq3 (allS (Or.inl (List.mem_of_getElem? (i := 0) rfl)) (allS (Or.inl (List.mem_of_getElem? (i := 1) rfl)) (allS (Or.inl (List.mem_of_getElem? (i := 2) rfl)) (allS (Or.inl (List.mem_of_getElem? (i := 3) rfl)) (allS (Or.inl (List.mem_of_getElem? (i := 4) rfl)) all0)))))
  refine OGo.tr st3 ?_
  show OGo p.tables e below _ (T3.setTop (mkF m 37 #[.val (.ref a1), .val (.int (1 : Int32)), .val (.int (2 : Int32)), .val (.int ((31 : Int32) + b1)), .val (.int (2 : Int32))] [(.int sl3)]))
  refine OGo.fin X3 (v := some (.int sl3)) (fun h => by rw [Bd.returns] at h; cases h) hlk (fun fs hr => X3.ireturnOut hx Bd.returns rfl (Or.inl rfl) (hb hby own_d_prog_9_method_2_code_37) hr) ?_ (by decide) (by decide)
  show own_Q_rm11 Z a1 b0 b1 at_ ah as_ ae av ar ab kt kh ks ke kb h0 n0 _ T3.heap _
  skip
  exact ⟨_, rfl, hsl3, N3, K_6, ff3_0, ff3_1, ff3_2, ff3_3, ff3_4, ff3_5, ff3_6⟩
theorem own_d_method_2_code_0 : decode method_2_code 0 = .ok (.iload_n 0, 1) := by decide +kernel
theorem own_d_method_2_code_1 : decode method_2_code 1 = .ok (.iconst 1, 1) := by decide +kernel
theorem own_d_method_2_code_2 : decode method_2_code 2 = .ok (.if_icmp .ne 5, 3) := by decide +kernel
theorem own_d_method_2_code_5 : decode method_2_code 5 = .ok (.iload_n 2, 1) := by decide +kernel
theorem own_d_method_2_code_6 : decode method_2_code 6 = .ok (.ireturn, 1) := by decide +kernel
theorem own_d_method_2_code_7 : decode method_2_code 7 = .ok (.iload_n 0, 1) := by decide +kernel
theorem own_d_method_2_code_8 : decode method_2_code 8 = .ok (.iconst 2, 1) := by decide +kernel
theorem own_d_method_2_code_9 : decode method_2_code 9 = .ok (.if_icmp .ne 5, 3) := by decide +kernel
theorem own_d_method_2_code_12 : decode method_2_code 12 = .ok (.iconst (-1), 1) := by decide +kernel
theorem own_d_method_2_code_13 : decode method_2_code 13 = .ok (.ireturn, 1) := by decide +kernel
theorem own_d_method_2_code_14 : decode method_2_code 14 = .ok (.iload_n 1, 1) := by decide +kernel
theorem own_d_method_2_code_15 : decode method_2_code 15 = .ok (.ireturn, 1) := by decide +kernel
theorem own_pn3 : plainName "com/example/nodal_ledger/nodalledger/csv/DistinctFieldsValuePinLaw" = true := by first | (simp [plainName, overriddenIn]; done) | decide +kernel
theorem own_ef_rm12 (m : MethodId) (x0 : Int32) (x1 : Int32) (x2 : Int32) : entryFrame m #[(.int x0), (.int x1), (.int x2)] 3 = mkF m 0 #[.val (.int x0), .val (.int x1), .val (.int x2)] [] := by first | (simp [entryFrame, mkF, argsToLocals, Value.category]; done) | rfl
def own_Q_rm12 (Z : State) (p1 p2 p3 : Int32) (h0 : Heap) (n0 : Nat) (v : Option Value) (h : Heap) (L : List Loc) : Prop := v = some (.int (own_ps p1 p2 p3)) ∧ Fr n0 L ∧ h = h0
set_option maxRecDepth 65536 in
set_option maxHeartbeats 40000000 in
theorem rm12 (l : Launch) (Z : State) (a0 : Array Value) (hw : ∀ d ∈ tables_1, d.before a0 Z = true) (ws : List Jvm.Cond) (p1 p2 p3 : Int32) (h0 : Heap) (n0 : Nat) (Z0 : n0 ≤ h0.size)  :
    OMet l Z (⟨"com/example/nodal_ledger/nodalledger/csv/DistinctFieldsValuePinLaw", "pickSlot", "(III)I"⟩ : MethodName) method_2_code 3 (some .int) ws ({ frames := 0, cells := 0, slots := 0, locals := 0 } : Room) #[(.int p1), (.int p2), (.int p3)] h0 (own_Q_rm12 Z p1 p2 p3 h0 n0) := by
  refine MetFree.of_bodySF (plainFor_of_name own_pn3) hisR ?_
  intro p e s m args below meth c s₁ Bd hml0 hP hK
  obtain ⟨rfl, hZ, hh⟩ := hP
  have hx := Bd.exec
  have hby := Bd.bytes
  have hml : c.maxLocals = 3 := hml0
  have hown : s.vm.findClass "com/example/nodal_ledger/nodalledger/csv/DistinctFieldsValuePinLaw" = some m.cls := findClass_of_methodNamed Bd.named
  have hnm := (name_of_methodNamed Bd.named Bd.method).1
  have hlk : meth.locks = false := Bd.notSynchronized
  have X0 : Stand p l e ({ frames := 0, cells := 0, slots := 0, locals := 0 } : Room) s m #[(.int p1), (.int p2), (.int p3)] below meth c s₁ [] 0 0 := Stand.of_body Bd
  have e0 : s₁.heap = h0 := by rw [← hh, Bd.state]; rfl
  have N0 := Fr.nil n0
  refine OGo.enter (P := OPost s (own_Q_rm12 Z p1 p2 p3 h0 n0) 0 0) (own_ef_rm12 m p1 p2 p3) ?_
  show OGo p.tables e below _ (s₁.setTop (mkF m 0 #[.val (.int p1), .val (.int p2), .val (.int p3)] []))
  refine OGo.st (fun _ k_ => XS.iloadN X0.here hx rfl (hb hby own_d_method_2_code_0) rfl k_) ?_
  show OGo p.tables e below _ (s₁.setTop (mkF m 1 #[.val (.int p1), .val (.int p2), .val (.int p3)] [(.int p1)]))
  refine OGo.st (fun _ k_ => XS.iconst X0.here hx rfl (hb hby own_d_method_2_code_1) k_) ?_
  show OGo p.tables e below _ (s₁.setTop (mkF m 2 #[.val (.int p1), .val (.int p2), .val (.int p3)] [(.int (1 : Int32)), (.int p1)]))
  by_cases hc2 : p1 = (1 : Int32)
  · refine OGo.st (fun _ k_ => XS.icmpNo X0.here hx rfl (hb hby own_d_method_2_code_2) rfl (XT.ii_ne_f hc2) k_) ?_
    show OGo p.tables e below _ (s₁.setTop (mkF m 5 #[.val (.int p1), .val (.int p2), .val (.int p3)] []))
    refine OGo.st (fun _ k_ => XS.iloadN X0.here hx rfl (hb hby own_d_method_2_code_5) rfl k_) ?_
    show OGo p.tables e below _ (s₁.setTop (mkF m 6 #[.val (.int p1), .val (.int p2), .val (.int p3)] [(.int p3)]))
    refine OGo.fin X0 (v := some (.int p3)) (fun h => by rw [Bd.returns] at h; cases h) hlk (fun fs hr => X0.ireturnOut hx Bd.returns rfl (Or.inl rfl) (hb hby own_d_method_2_code_6) hr) ?_ (by decide) (by decide)
    show own_Q_rm12 Z p1 p2 p3 h0 n0 _ s₁.heap _
    rw [e0]
    exact ⟨by simp [own_ps, hc2], N0, rfl⟩
  · refine OGo.st (fun _ k_ => XS.icmpYes X0.here hx rfl (pc0 := 2) (pc' := 7) rfl (hb hby own_d_method_2_code_2) rfl (XT.ii_ne_t hc2) (by decide) (by decide) k_) ?_
    show OGo p.tables e below _ (s₁.setTop (mkF m 7 #[.val (.int p1), .val (.int p2), .val (.int p3)] []))
    refine OGo.st (fun _ k_ => XS.iloadN X0.here hx rfl (hb hby own_d_method_2_code_7) rfl k_) ?_
    show OGo p.tables e below _ (s₁.setTop (mkF m 8 #[.val (.int p1), .val (.int p2), .val (.int p3)] [(.int p1)]))
    refine OGo.st (fun _ k_ => XS.iconst X0.here hx rfl (hb hby own_d_method_2_code_8) k_) ?_
    show OGo p.tables e below _ (s₁.setTop (mkF m 9 #[.val (.int p1), .val (.int p2), .val (.int p3)] [(.int (2 : Int32)), (.int p1)]))
    by_cases hc9 : p1 = (2 : Int32)
    · refine OGo.st (fun _ k_ => XS.icmpNo X0.here hx rfl (hb hby own_d_method_2_code_9) rfl (XT.ii_ne_f hc9) k_) ?_
      show OGo p.tables e below _ (s₁.setTop (mkF m 12 #[.val (.int p1), .val (.int p2), .val (.int p3)] []))
      refine OGo.st (fun _ k_ => XS.iconst X0.here hx rfl (hb hby own_d_method_2_code_12) k_) ?_
      show OGo p.tables e below _ (s₁.setTop (mkF m 13 #[.val (.int p1), .val (.int p2), .val (.int p3)] [(.int (-1 : Int32))]))
      refine OGo.fin X0 (v := some (.int (-1 : Int32))) (fun h => by rw [Bd.returns] at h; cases h) hlk (fun fs hr => X0.ireturnOut hx Bd.returns rfl (Or.inl rfl) (hb hby own_d_method_2_code_13) hr) ?_ (by decide) (by decide)
      show own_Q_rm12 Z p1 p2 p3 h0 n0 _ s₁.heap _
      rw [e0]
      exact ⟨by simp [own_ps, hc2, hc9], N0, rfl⟩
    · refine OGo.st (fun _ k_ => XS.icmpYes X0.here hx rfl (pc0 := 9) (pc' := 14) rfl (hb hby own_d_method_2_code_9) rfl (XT.ii_ne_t hc9) (by decide) (by decide) k_) ?_
      show OGo p.tables e below _ (s₁.setTop (mkF m 14 #[.val (.int p1), .val (.int p2), .val (.int p3)] []))
      refine OGo.st (fun _ k_ => XS.iloadN X0.here hx rfl (hb hby own_d_method_2_code_14) rfl k_) ?_
      show OGo p.tables e below _ (s₁.setTop (mkF m 15 #[.val (.int p1), .val (.int p2), .val (.int p3)] [(.int p2)]))
      refine OGo.fin X0 (v := some (.int p2)) (fun h => by rw [Bd.returns] at h; cases h) hlk (fun fs hr => X0.ireturnOut hx Bd.returns rfl (Or.inl rfl) (hb hby own_d_method_2_code_15) hr) ?_ (by decide) (by decide)
      show own_Q_rm12 Z p1 p2 p3 h0 n0 _ s₁.heap _
      rw [e0]
      exact ⟨by simp [own_ps, hc2, hc9], N0, rfl⟩
theorem own_d_method_3_code_0 : decode method_3_code 0 = .ok (.iload_n 0, 1) := by decide +kernel
theorem own_d_method_3_code_1 : decode method_3_code 1 = .ok (.iconst 1, 1) := by decide +kernel
theorem own_d_method_3_code_2 : decode method_3_code 2 = .ok (.if_icmp .ne 5, 3) := by decide +kernel
theorem own_d_method_3_code_5 : decode method_3_code 5 = .ok (.aload_n 2, 1) := by decide +kernel
theorem own_d_method_3_code_6 : decode method_3_code 6 = .ok (.areturn, 1) := by decide +kernel
theorem own_d_method_3_code_7 : decode method_3_code 7 = .ok (.iload_n 0, 1) := by decide +kernel
theorem own_d_method_3_code_8 : decode method_3_code 8 = .ok (.iconst 2, 1) := by decide +kernel
theorem own_d_method_3_code_9 : decode method_3_code 9 = .ok (.if_icmp .ne 5, 3) := by decide +kernel
theorem own_d_method_3_code_12 : decode method_3_code 12 = .ok (.aconst_null, 1) := by decide +kernel
theorem own_d_method_3_code_13 : decode method_3_code 13 = .ok (.areturn, 1) := by decide +kernel
theorem own_d_method_3_code_14 : decode method_3_code 14 = .ok (.aload_n 1, 1) := by decide +kernel
theorem own_d_method_3_code_15 : decode method_3_code 15 = .ok (.areturn, 1) := by decide +kernel
theorem own_ef_rm13 (m : MethodId) (x0 : Int32) (x1 : Addr) (x2 : Addr) : entryFrame m #[(.int x0), (.ref x1), (.ref x2)] 3 = mkF m 0 #[.val (.int x0), .val (.ref x1), .val (.ref x2)] [] := by first | (simp [entryFrame, mkF, argsToLocals, Value.category]; done) | rfl
def own_Q_rm13 (Z : State) (p1 : Int32) (x1 x2 : Addr) (h0 : Heap) (n0 : Nat) (v : Option Value) (h : Heap) (L : List Loc) : Prop := v = some (own_pr p1 x1 x2) ∧ Fr n0 L ∧ h = h0
set_option maxRecDepth 65536 in
set_option maxHeartbeats 40000000 in
theorem rm13 (l : Launch) (Z : State) (a0 : Array Value) (hw : ∀ d ∈ tables_1, d.before a0 Z = true) (ws : List Jvm.Cond) (p1 : Int32) (x1 x2 : Addr) (h0 : Heap) (n0 : Nat) (Z0 : n0 ≤ h0.size)  :
    OMet l Z (⟨"com/example/nodal_ledger/nodalledger/csv/DistinctFieldsValuePinLaw", "pickReading", "(ILjava/lang/Object;Ljava/lang/Object;)Ljava/lang/Object;"⟩ : MethodName) method_3_code 3 (some (.object "java/lang/Object")) ws ({ frames := 0, cells := 0, slots := 0, locals := 0 } : Room) #[(.int p1), (.ref x1), (.ref x2)] h0 (own_Q_rm13 Z p1 x1 x2 h0 n0) := by
  refine MetFree.of_bodySF (plainFor_of_name own_pn3) hisR ?_
  intro p e s m args below meth c s₁ Bd hml0 hP hK
  obtain ⟨rfl, hZ, hh⟩ := hP
  have hx := Bd.exec
  have hby := Bd.bytes
  have hml : c.maxLocals = 3 := hml0
  have hown : s.vm.findClass "com/example/nodal_ledger/nodalledger/csv/DistinctFieldsValuePinLaw" = some m.cls := findClass_of_methodNamed Bd.named
  have hnm := (name_of_methodNamed Bd.named Bd.method).1
  have hlk : meth.locks = false := Bd.notSynchronized
  have X0 : Stand p l e ({ frames := 0, cells := 0, slots := 0, locals := 0 } : Room) s m #[(.int p1), (.ref x1), (.ref x2)] below meth c s₁ [] 0 0 := Stand.of_body Bd
  have e0 : s₁.heap = h0 := by rw [← hh, Bd.state]; rfl
  have N0 := Fr.nil n0
  refine OGo.enter (P := OPost s (own_Q_rm13 Z p1 x1 x2 h0 n0) 0 0) (own_ef_rm13 m p1 x1 x2) ?_
  show OGo p.tables e below _ (s₁.setTop (mkF m 0 #[.val (.int p1), .val (.ref x1), .val (.ref x2)] []))
  refine OGo.st (fun _ k_ => XS.iloadN X0.here hx rfl (hb hby own_d_method_3_code_0) rfl k_) ?_
  show OGo p.tables e below _ (s₁.setTop (mkF m 1 #[.val (.int p1), .val (.ref x1), .val (.ref x2)] [(.int p1)]))
  refine OGo.st (fun _ k_ => XS.iconst X0.here hx rfl (hb hby own_d_method_3_code_1) k_) ?_
  show OGo p.tables e below _ (s₁.setTop (mkF m 2 #[.val (.int p1), .val (.ref x1), .val (.ref x2)] [(.int (1 : Int32)), (.int p1)]))
  by_cases hc2 : p1 = (1 : Int32)
  · refine OGo.st (fun _ k_ => XS.icmpNo X0.here hx rfl (hb hby own_d_method_3_code_2) rfl (XT.ii_ne_f hc2) k_) ?_
    show OGo p.tables e below _ (s₁.setTop (mkF m 5 #[.val (.int p1), .val (.ref x1), .val (.ref x2)] []))
    refine OGo.st (fun _ k_ => XS.aloadN X0.here hx rfl (hb hby own_d_method_3_code_5) rfl rfl k_) ?_
    show OGo p.tables e below _ (s₁.setTop (mkF m 6 #[.val (.int p1), .val (.ref x1), .val (.ref x2)] [(.ref x2)]))
    refine OGo.fin X0 (v := some (.ref x2)) (fun h => by rw [Bd.returns] at h; cases h) hlk (fun fs hr => X0.areturnOut hx rfl Bd.returns rfl (hb hby own_d_method_3_code_6) hr) ?_ (by decide) (by decide)
    show own_Q_rm13 Z p1 x1 x2 h0 n0 _ s₁.heap _
    rw [e0]
    exact ⟨by simp [own_pr, hc2], N0, rfl⟩
  · refine OGo.st (fun _ k_ => XS.icmpYes X0.here hx rfl (pc0 := 2) (pc' := 7) rfl (hb hby own_d_method_3_code_2) rfl (XT.ii_ne_t hc2) (by decide) (by decide) k_) ?_
    show OGo p.tables e below _ (s₁.setTop (mkF m 7 #[.val (.int p1), .val (.ref x1), .val (.ref x2)] []))
    refine OGo.st (fun _ k_ => XS.iloadN X0.here hx rfl (hb hby own_d_method_3_code_7) rfl k_) ?_
    show OGo p.tables e below _ (s₁.setTop (mkF m 8 #[.val (.int p1), .val (.ref x1), .val (.ref x2)] [(.int p1)]))
    refine OGo.st (fun _ k_ => XS.iconst X0.here hx rfl (hb hby own_d_method_3_code_8) k_) ?_
    show OGo p.tables e below _ (s₁.setTop (mkF m 9 #[.val (.int p1), .val (.ref x1), .val (.ref x2)] [(.int (2 : Int32)), (.int p1)]))
    by_cases hc9 : p1 = (2 : Int32)
    · refine OGo.st (fun _ k_ => XS.icmpNo X0.here hx rfl (hb hby own_d_method_3_code_9) rfl (XT.ii_ne_f hc9) k_) ?_
      show OGo p.tables e below _ (s₁.setTop (mkF m 12 #[.val (.int p1), .val (.ref x1), .val (.ref x2)] []))
      refine OGo.st (fun _ k_ => XS.aconstNull X0.here hx rfl (hb hby own_d_method_3_code_12) k_) ?_
      show OGo p.tables e below _ (s₁.setTop (mkF m 13 #[.val (.int p1), .val (.ref x1), .val (.ref x2)] [.null]))
      refine OGo.fin X0 (v := some .null) (fun h => by rw [Bd.returns] at h; cases h) hlk (fun fs hr => X0.areturnOut hx rfl Bd.returns rfl (hb hby own_d_method_3_code_13) hr) ?_ (by decide) (by decide)
      show own_Q_rm13 Z p1 x1 x2 h0 n0 _ s₁.heap _
      rw [e0]
      exact ⟨by simp [own_pr, hc2, hc9], N0, rfl⟩
    · refine OGo.st (fun _ k_ => XS.icmpYes X0.here hx rfl (pc0 := 9) (pc' := 14) rfl (hb hby own_d_method_3_code_9) rfl (XT.ii_ne_t hc9) (by decide) (by decide) k_) ?_
      show OGo p.tables e below _ (s₁.setTop (mkF m 14 #[.val (.int p1), .val (.ref x1), .val (.ref x2)] []))
      refine OGo.st (fun _ k_ => XS.aloadN X0.here hx rfl (hb hby own_d_method_3_code_14) rfl rfl k_) ?_
      show OGo p.tables e below _ (s₁.setTop (mkF m 15 #[.val (.int p1), .val (.ref x1), .val (.ref x2)] [(.ref x1)]))
      refine OGo.fin X0 (v := some (.ref x1)) (fun h => by rw [Bd.returns] at h; cases h) hlk (fun fs hr => X0.areturnOut hx rfl Bd.returns rfl (hb hby own_d_method_3_code_15) hr) ?_ (by decide) (by decide)
      show own_Q_rm13 Z p1 x1 x2 h0 n0 _ s₁.heap _
      rw [e0]
      exact ⟨by simp [own_pr, hc2, hc9], N0, rfl⟩
theorem own_d_prog_9_method_6_code_0 : decode prog_9_method_6_code 0 = .ok (.iload_n 1, 1) := by decide +kernel
theorem own_d_prog_9_method_6_code_1 : decode prog_9_method_6_code 1 = .ok (.iconst (-1), 1) := by decide +kernel
theorem own_d_prog_9_method_6_code_2 : decode prog_9_method_6_code 2 = .ok (.if_icmp .eq 22, 3) := by decide +kernel
theorem own_d_prog_9_method_6_code_24 : decode prog_9_method_6_code 24 = .ok (.aconst_null, 1) := by decide +kernel
theorem own_d_prog_9_method_6_code_25 : decode prog_9_method_6_code 25 = .ok (.areturn, 1) := by decide +kernel
theorem own_d_prog_9_method_6_code_5 : decode prog_9_method_6_code 5 = .ok (.aload_n 0, 1) := by decide +kernel
theorem own_d_prog_9_method_6_code_6 : decode prog_9_method_6_code 6 = .ok (.getfield 32, 3) := by decide +kernel
theorem own_d_prog_9_method_6_code_9 : decode prog_9_method_6_code 9 = .ok (.iload_n 1, 1) := by decide +kernel
theorem own_d_prog_9_method_6_code_10 : decode prog_9_method_6_code 10 = .ok (.aaload, 1) := by decide +kernel
theorem own_d_prog_9_method_6_code_11 : decode prog_9_method_6_code 11 = .ok (.aload_n 2, 1) := by decide +kernel
theorem own_d_prog_9_method_6_code_12 : decode prog_9_method_6_code 12 = .ok (.if_acmp .ne 12, 3) := by decide +kernel
theorem own_d_prog_9_method_6_code_15 : decode prog_9_method_6_code 15 = .ok (.aload_n 0, 1) := by decide +kernel
theorem own_d_prog_9_method_6_code_16 : decode prog_9_method_6_code 16 = .ok (.getfield 28, 3) := by decide +kernel
theorem own_d_prog_9_method_6_code_19 : decode prog_9_method_6_code 19 = .ok (.iload_n 1, 1) := by decide +kernel
theorem own_d_prog_9_method_6_code_20 : decode prog_9_method_6_code 20 = .ok (.aaload, 1) := by decide +kernel
theorem own_d_prog_9_method_6_code_21 : decode prog_9_method_6_code 21 = .ok (.goto 4, 3) := by decide +kernel
theorem own_ef_rm14 (m : MethodId) (x0 : Addr) (x1 : Int32) (x2 : Value) (hr2 : x2.isRef = true) : entryFrame m #[(.ref x0), (.int x1), x2] 3 = mkF m 0 #[.val (.ref x0), .val (.int x1), .val x2] [] := by rcases ref_cases hr2 with rfl | ⟨_, rfl⟩ <;> first | rfl | (simp [entryFrame, mkF, argsToLocals, Value.category]; done)
def own_Q_rm14 (Z : State) (a1 : Addr) (i : Int32) (x : Value) (av ar : Addr) (kv kr : ClassId) (fv fr : Nat → Value) (h0 : Heap) (n0 : Nat) (v : Option Value) (h : Heap) (L : List Loc) : Prop := v = some (own_val i x fr fv) ∧ Fr n0 L ∧ h = h0
set_option maxRecDepth 65536 in
set_option maxHeartbeats 40000000 in
theorem rm14 (l : Launch) (Z : State) (a0 : Array Value) (hw : ∀ d ∈ tables_1, d.before a0 Z = true) (ws : List Jvm.Cond) (a1 : Addr) (i : Int32) (x : Value) (av ar : Addr) (kv kr : ClassId) (fv fr : Nat → Value) (h0 : Heap) (n0 : Nat) (Z0 : n0 ≤ h0.size) (hx_ : x.isRef = true) (F_values_a1 : Fld Z h0 a1 "com/example/nodal_ledger/nodalledger/csv/DistinctFields" "values" "[Ljava/lang/Object;" (.ref av)) (F_readings_a1 : Fld Z h0 a1 "com/example/nodal_ledger/nodalledger/csv/DistinctFields" "readings" "[Ljava/lang/Object;" (.ref ar)) (A_av : Arf Z h0 av kv (.object "java/lang/Object") 512 fv) (A_ar : Arf Z h0 ar kr (.object "java/lang/Object") 512 fr) (hi : i = -1 ∨ (¬ i < 0 ∧ i < 512)) :
    OMet l Z (⟨"com/example/nodal_ledger/nodalledger/csv/DistinctFields", "value", "(ILjava/lang/Object;)Ljava/lang/Object;"⟩ : MethodName) prog_9_method_6_code 3 (some (.object "java/lang/Object")) ws ({ frames := 0, cells := 0, slots := 0, locals := 0 } : Room) #[(.ref a1), (.int i), x] h0 (own_Q_rm14 Z a1 i x av ar kv kr fv fr h0 n0) := by
  refine MetFree.of_bodySF (plainFor_of_name own_pn0) hisR ?_
  intro p e s m args below meth c s₁ Bd hml0 hP hK
  obtain ⟨rfl, hZ, hh⟩ := hP
  have hx := Bd.exec
  have hby := Bd.bytes
  have hml : c.maxLocals = 3 := hml0
  have hown : s.vm.findClass "com/example/nodal_ledger/nodalledger/csv/DistinctFields" = some m.cls := findClass_of_methodNamed Bd.named
  have hnm := (name_of_methodNamed Bd.named Bd.method).1
  have hlk : meth.locks = false := Bd.notSynchronized
  have X0 : Stand p l e ({ frames := 0, cells := 0, slots := 0, locals := 0 } : Room) s m #[(.ref a1), (.int i), x] below meth c s₁ [] 0 0 := Stand.of_body Bd
  have e0 : s₁.heap = h0 := by rw [← hh, Bd.state]; rfl
  have N0 := Fr.nil n0
  refine OGo.enter (P := OPost s (own_Q_rm14 Z a1 i x av ar kv kr fv fr h0 n0) 0 0) (own_ef_rm14 m a1 i x hx_) ?_
  show OGo p.tables e below _ (s₁.setTop (mkF m 0 #[.val (.ref a1), .val (.int i), .val x] []))
  refine OGo.st (fun _ k_ => XS.iloadN X0.here hx rfl (hb hby own_d_prog_9_method_6_code_0) rfl k_) ?_
  show OGo p.tables e below _ (s₁.setTop (mkF m 1 #[.val (.ref a1), .val (.int i), .val x] [(.int i)]))
  refine OGo.st (fun _ k_ => XS.iconst X0.here hx rfl (hb hby own_d_prog_9_method_6_code_1) k_) ?_
  show OGo p.tables e below _ (s₁.setTop (mkF m 2 #[.val (.ref a1), .val (.int i), .val x] [(.int (-1 : Int32)), (.int i)]))
  by_cases hc2 : i = (-1 : Int32)
  · refine OGo.st (fun _ k_ => XS.icmpYes X0.here hx rfl (pc0 := 2) (pc' := 24) rfl (hb hby own_d_prog_9_method_6_code_2) rfl (XT.ii_eq_t hc2) (by decide) (by decide) k_) ?_
    show OGo p.tables e below _ (s₁.setTop (mkF m 24 #[.val (.ref a1), .val (.int i), .val x] []))
    refine OGo.st (fun _ k_ => XS.aconstNull X0.here hx rfl (hb hby own_d_prog_9_method_6_code_24) k_) ?_
    show OGo p.tables e below _ (s₁.setTop (mkF m 25 #[.val (.ref a1), .val (.int i), .val x] [.null]))
    refine OGo.fin X0 (v := some .null) (fun h => by rw [Bd.returns] at h; cases h) hlk (fun fs hr => X0.areturnOut hx rfl Bd.returns rfl (hb hby own_d_prog_9_method_6_code_25) hr) ?_ (by decide) (by decide)
    show own_Q_rm14 Z a1 i x av ar kv kr fv fr h0 n0 _ s₁.heap _
    rw [e0]
    exact ⟨by simp [own_val, hc2], N0, rfl⟩
  · refine OGo.st (fun _ k_ => XS.icmpNo X0.here hx rfl (hb hby own_d_prog_9_method_6_code_2) rfl (XT.ii_eq_f hc2) k_) ?_
    show OGo p.tables e below _ (s₁.setTop (mkF m 5 #[.val (.ref a1), .val (.int i), .val x] []))
    refine OGo.st (fun _ k_ => XS.aloadN X0.here hx rfl (hb hby own_d_prog_9_method_6_code_5) rfl rfl k_) ?_
    show OGo p.tables e below _ (s₁.setTop (mkF m 6 #[.val (.ref a1), .val (.int i), .val x] [(.ref a1)]))
    obtain ⟨T1, X1, ez1, st1⟩ := getF X0 hx hZ hown (host := "") (Or.inl (hw _ (List.mem_of_getElem? (i := 27) rfl))) Via.refl e0 F_readings_a1 (g := (mkF m 6 #[.val (.ref a1), .val (.int i), .val x] [(.ref a1)])) rfl rfl (hb hby own_d_prog_9_method_6_code_6)
    refine OGo.st st1 ?_
    show OGo p.tables e below _ (T1.setTop (mkF m 9 #[.val (.ref a1), .val (.int i), .val x] [(.ref ar)]))
    refine OGo.st (fun _ k_ => XS.iloadN X1.here hx rfl (hb hby own_d_prog_9_method_6_code_9) rfl k_) ?_
    show OGo p.tables e below _ (T1.setTop (mkF m 10 #[.val (.ref a1), .val (.int i), .val x] [(.int i), (.ref ar)]))
    have qz2 := own_ldR X1 hx hZ ez1 A_ar (j := i) (v := (fr i.toNatClampNeg)) (hi.resolve_left hc2) rfl (g := (mkF m 10 #[.val (.ref a1), .val (.int i), .val x] [(.int i), (.ref ar)])) rfl rfl (hb hby own_d_prog_9_method_6_code_10)
    refine OGo.st qz2 ?_
    show OGo p.tables e below _ (T1.setTop (mkF m 11 #[.val (.ref a1), .val (.int i), .val x] [(fr i.toNatClampNeg)]))
    refine OGo.st (fun _ k_ => XS.aloadN X1.here hx rfl (hb hby own_d_prog_9_method_6_code_11) rfl hx_ k_) ?_
    show OGo p.tables e below _ (T1.setTop (mkF m 12 #[.val (.ref a1), .val (.int i), .val x] [x, (fr i.toNatClampNeg)]))
    by_cases hc12 : (fr i.toNatClampNeg) = x
    · refine OGo.st (fun _ k_ => XT.acmpNo X1.here hx rfl (hb hby own_d_prog_9_method_6_code_12) rfl (own_isref A_ar (hi.resolve_left hc2)) hx_ (XT.aa_ne_f hc12) k_) ?_
      show OGo p.tables e below _ (T1.setTop (mkF m 15 #[.val (.ref a1), .val (.int i), .val x] []))
      refine OGo.st (fun _ k_ => XS.aloadN X1.here hx rfl (hb hby own_d_prog_9_method_6_code_15) rfl rfl k_) ?_
      show OGo p.tables e below _ (T1.setTop (mkF m 16 #[.val (.ref a1), .val (.int i), .val x] [(.ref a1)]))
      obtain ⟨T3, X3, ez3, st3⟩ := getF X1 hx hZ hown (host := "") (Or.inl (hw _ (List.mem_of_getElem? (i := 25) rfl))) Via.refl ez1 F_values_a1 (g := (mkF m 16 #[.val (.ref a1), .val (.int i), .val x] [(.ref a1)])) rfl rfl (hb hby own_d_prog_9_method_6_code_16)
      refine OGo.st st3 ?_
      show OGo p.tables e below _ (T3.setTop (mkF m 19 #[.val (.ref a1), .val (.int i), .val x] [(.ref av)]))
      refine OGo.st (fun _ k_ => XS.iloadN X3.here hx rfl (hb hby own_d_prog_9_method_6_code_19) rfl k_) ?_
      show OGo p.tables e below _ (T3.setTop (mkF m 20 #[.val (.ref a1), .val (.int i), .val x] [(.int i), (.ref av)]))
      have qz4 := own_ldR X3 hx hZ ez3 A_av (j := i) (v := (fv i.toNatClampNeg)) (hi.resolve_left hc2) rfl (g := (mkF m 20 #[.val (.ref a1), .val (.int i), .val x] [(.int i), (.ref av)])) rfl rfl (hb hby own_d_prog_9_method_6_code_20)
      refine OGo.st qz4 ?_
      show OGo p.tables e below _ (T3.setTop (mkF m 21 #[.val (.ref a1), .val (.int i), .val x] [(fv i.toNatClampNeg)]))
      refine OGo.st (fun _ k_ => XS.goto X3.here hx rfl (pc0 := 21) (pc' := 25) rfl (hb hby own_d_prog_9_method_6_code_21) (by decide) (by decide) k_) ?_
      show OGo p.tables e below _ (T3.setTop (mkF m 25 #[.val (.ref a1), .val (.int i), .val x] [(fv i.toNatClampNeg)]))
      refine OGo.fin X3 (v := some (fv i.toNatClampNeg)) (fun h => by rw [Bd.returns] at h; cases h) hlk (fun fs hr => X3.areturnOut hx (own_isref A_av (hi.resolve_left hc2)) Bd.returns rfl (hb hby own_d_prog_9_method_6_code_25) hr) ?_ (by decide) (by decide)
      show own_Q_rm14 Z a1 i x av ar kv kr fv fr h0 n0 _ T3.heap _
      rw [ez3]
      exact ⟨by simp [own_val, hc2, hc12], N0, rfl⟩
    · refine OGo.st (fun _ k_ => XT.acmpYes X1.here hx rfl (pc0 := 12) (pc' := 24) rfl (hb hby own_d_prog_9_method_6_code_12) rfl (own_isref A_ar (hi.resolve_left hc2)) hx_ (XT.aa_ne_t hc12) (by decide) (by decide) k_) ?_
      show OGo p.tables e below _ (T1.setTop (mkF m 24 #[.val (.ref a1), .val (.int i), .val x] []))
      refine OGo.st (fun _ k_ => XS.aconstNull X1.here hx rfl (hb hby own_d_prog_9_method_6_code_24) k_) ?_
      show OGo p.tables e below _ (T1.setTop (mkF m 25 #[.val (.ref a1), .val (.int i), .val x] [.null]))
      refine OGo.fin X1 (v := some .null) (fun h => by rw [Bd.returns] at h; cases h) hlk (fun fs hr => X1.areturnOut hx rfl Bd.returns rfl (hb hby own_d_prog_9_method_6_code_25) hr) ?_ (by decide) (by decide)
      show own_Q_rm14 Z a1 i x av ar kv kr fv fr h0 n0 _ T1.heap _
      rw [ez1]
      exact ⟨by simp [own_val, hc2, hc12], N0, rfl⟩
theorem own_d_prog_9_method_7_code_0 : decode prog_9_method_7_code 0 = .ok (.iload_n 1, 1) := by decide +kernel
theorem own_d_prog_9_method_7_code_1 : decode prog_9_method_7_code 1 = .ok (.iconst (-1), 1) := by decide +kernel
theorem own_d_prog_9_method_7_code_2 : decode prog_9_method_7_code 2 = .ok (.if_icmp .eq 17, 3) := by decide +kernel
theorem own_d_prog_9_method_7_code_19 : decode prog_9_method_7_code 19 = .ok (.return_, 1) := by decide +kernel
theorem own_d_prog_9_method_7_code_5 : decode prog_9_method_7_code 5 = .ok (.aload_n 0, 1) := by decide +kernel
theorem own_d_prog_9_method_7_code_6 : decode prog_9_method_7_code 6 = .ok (.getfield 32, 3) := by decide +kernel
theorem own_d_prog_9_method_7_code_9 : decode prog_9_method_7_code 9 = .ok (.iload_n 1, 1) := by decide +kernel
theorem own_d_prog_9_method_7_code_10 : decode prog_9_method_7_code 10 = .ok (.aload_n 2, 1) := by decide +kernel
theorem own_d_prog_9_method_7_code_11 : decode prog_9_method_7_code 11 = .ok (.aastore, 1) := by decide +kernel
theorem own_d_prog_9_method_7_code_12 : decode prog_9_method_7_code 12 = .ok (.aload_n 0, 1) := by decide +kernel
theorem own_d_prog_9_method_7_code_13 : decode prog_9_method_7_code 13 = .ok (.getfield 28, 3) := by decide +kernel
theorem own_d_prog_9_method_7_code_16 : decode prog_9_method_7_code 16 = .ok (.iload_n 1, 1) := by decide +kernel
theorem own_d_prog_9_method_7_code_17 : decode prog_9_method_7_code 17 = .ok (.aload_n 3, 1) := by decide +kernel
theorem own_d_prog_9_method_7_code_18 : decode prog_9_method_7_code 18 = .ok (.aastore, 1) := by decide +kernel
theorem own_ef_rm15 (m : MethodId) (x0 : Addr) (x1 : Int32) (x2 : Value) (x3 : Addr) (hr2 : x2.isRef = true) : entryFrame m #[(.ref x0), (.int x1), x2, (.ref x3)] 4 = mkF m 0 #[.val (.ref x0), .val (.int x1), .val x2, .val (.ref x3)] [] := by rcases ref_cases hr2 with rfl | ⟨_, rfl⟩ <;> first | rfl | (simp [entryFrame, mkF, argsToLocals, Value.category]; done)
def own_Q_rm15 (Z : State) (a1 : Addr) (i : Int32) (x : Value) (y : Addr) (av ar : Addr) (kv kr : ClassId) (fv fr : Nat → Value) (h0 : Heap) (n0 : Nat) (v : Option Value) (h : Heap) (L : List Loc) : Prop := v = none ∧ Fr n0 L ∧ Keep h0 h [ar, av] ∧ Arf Z h av kv (.object "java/lang/Object") 512 (own_kp i (.ref y) fv) ∧ Arf Z h ar kr (.object "java/lang/Object") 512 (own_kp i x fr)
set_option maxRecDepth 65536 in
set_option maxHeartbeats 40000000 in
theorem rm15 (l : Launch) (Z : State) (a0 : Array Value) (hw : ∀ d ∈ tables_1, d.before a0 Z = true) (ws : List Jvm.Cond) (a1 : Addr) (i : Int32) (x : Value) (y : Addr) (av ar : Addr) (kv kr : ClassId) (fv fr : Nat → Value) (h0 : Heap) (n0 : Nat) (Z0 : n0 ≤ h0.size) (hx_ : x.isRef = true) (F_values_a1 : Fld Z h0 a1 "com/example/nodal_ledger/nodalledger/csv/DistinctFields" "values" "[Ljava/lang/Object;" (.ref av)) (F_readings_a1 : Fld Z h0 a1 "com/example/nodal_ledger/nodalledger/csv/DistinctFields" "readings" "[Ljava/lang/Object;" (.ref ar)) (A_av : Arf Z h0 av kv (.object "java/lang/Object") 512 fv) (g_av : n0 ≤ av) (A_ar : Arf Z h0 ar kr (.object "java/lang/Object") 512 fr) (g_ar : n0 ≤ ar) (hi : i = -1 ∨ (¬ i < 0 ∧ i < 512)) (l1 : Nat.succ a1 ≤ av) (l2 : Nat.succ av ≤ ar) (ov : Ovr Z kv "java/lang/Object") (or_ : Ovr Z kr "java/lang/Object") (ox : own_obj Z h0 x) (oy : own_obj Z h0 (.ref y)) :
    OMet l Z (⟨"com/example/nodal_ledger/nodalledger/csv/DistinctFields", "keep", "(ILjava/lang/Object;Ljava/lang/Object;)V"⟩ : MethodName) prog_9_method_7_code 4 none ws ({ frames := 0, cells := 0, slots := 0, locals := 0 } : Room) #[(.ref a1), (.int i), x, (.ref y)] h0 (own_Q_rm15 Z a1 i x y av ar kv kr fv fr h0 n0) := by
  refine MetFree.of_bodySF (plainFor_of_name own_pn0) hisR ?_
  intro p e s m args below meth c s₁ Bd hml0 hP hK
  obtain ⟨rfl, hZ, hh⟩ := hP
  have hx := Bd.exec
  have hby := Bd.bytes
  have hml : c.maxLocals = 4 := hml0
  have hown : s.vm.findClass "com/example/nodal_ledger/nodalledger/csv/DistinctFields" = some m.cls := findClass_of_methodNamed Bd.named
  have hnm := (name_of_methodNamed Bd.named Bd.method).1
  have hlk : meth.locks = false := Bd.notSynchronized
  have X0 : Stand p l e ({ frames := 0, cells := 0, slots := 0, locals := 0 } : Room) s m #[(.ref a1), (.int i), x, (.ref y)] below meth c s₁ [] 0 0 := Stand.of_body Bd
  have e0 : s₁.heap = h0 := by rw [← hh, Bd.state]; rfl
  have N0 := Fr.nil n0
  refine OGo.enter (P := OPost s (own_Q_rm15 Z a1 i x y av ar kv kr fv fr h0 n0) 0 0) (own_ef_rm15 m a1 i x y hx_) ?_
  show OGo p.tables e below _ (s₁.setTop (mkF m 0 #[.val (.ref a1), .val (.int i), .val x, .val (.ref y)] []))
  refine OGo.st (fun _ k_ => XS.iloadN X0.here hx rfl (hb hby own_d_prog_9_method_7_code_0) rfl k_) ?_
  show OGo p.tables e below _ (s₁.setTop (mkF m 1 #[.val (.ref a1), .val (.int i), .val x, .val (.ref y)] [(.int i)]))
  refine OGo.st (fun _ k_ => XS.iconst X0.here hx rfl (hb hby own_d_prog_9_method_7_code_1) k_) ?_
  show OGo p.tables e below _ (s₁.setTop (mkF m 2 #[.val (.ref a1), .val (.int i), .val x, .val (.ref y)] [(.int (-1 : Int32)), (.int i)]))
  by_cases hc2 : i = (-1 : Int32)
  · skip
    refine OGo.st (fun _ k_ => XS.icmpYes X0.here hx rfl (pc0 := 2) (pc' := 19) rfl (hb hby own_d_prog_9_method_7_code_2) rfl (XT.ii_eq_t hc2) (by decide) (by decide) k_) ?_
    show OGo p.tables e below _ (s₁.setTop (mkF m 19 #[.val (.ref a1), .val (.int i), .val x, .val (.ref y)] []))
    refine OGo.fin X0 (v := none) (fun _ => rfl) hlk (fun fs hr => X0.returnOut hx Bd.returns (hb hby own_d_prog_9_method_7_code_19) hr) ?_ (by decide) (by decide)
    show own_Q_rm15 Z a1 i x y av ar kv kr fv fr h0 n0 _ s₁.heap _
    rw [e0]
    exact ⟨rfl, N0, (Keep.refl h0 [ar, av]), by rw [own_kpN _ _ hc2]; exact A_av, by rw [own_kpN _ _ hc2]; exact A_ar⟩
  · skip
    show OGo p.tables e below _ (s₁.setTop (mkF m 2 #[.val (.ref a1), .val (.int i), .val x, .val (.ref y)] [(.int (-1 : Int32)), (.int i)]))
    refine OGo.st (fun _ k_ => XS.icmpNo X0.here hx rfl (hb hby own_d_prog_9_method_7_code_2) rfl (XT.ii_eq_f hc2) k_) ?_
    show OGo p.tables e below _ (s₁.setTop (mkF m 5 #[.val (.ref a1), .val (.int i), .val x, .val (.ref y)] []))
    refine OGo.st (fun _ k_ => XS.aloadN X0.here hx rfl (hb hby own_d_prog_9_method_7_code_5) rfl rfl k_) ?_
    show OGo p.tables e below _ (s₁.setTop (mkF m 6 #[.val (.ref a1), .val (.int i), .val x, .val (.ref y)] [(.ref a1)]))
    obtain ⟨T1, X1, ez1, st1⟩ := getF X0 hx hZ hown (host := "") (Or.inl (hw _ (List.mem_of_getElem? (i := 27) rfl))) Via.refl e0 F_readings_a1 (g := (mkF m 6 #[.val (.ref a1), .val (.int i), .val x, .val (.ref y)] [(.ref a1)])) rfl rfl (hb hby own_d_prog_9_method_7_code_6)
    refine OGo.st st1 ?_
    show OGo p.tables e below _ (T1.setTop (mkF m 9 #[.val (.ref a1), .val (.int i), .val x, .val (.ref y)] [(.ref ar)]))
    refine OGo.st (fun _ k_ => XS.iloadN X1.here hx rfl (hb hby own_d_prog_9_method_7_code_9) rfl k_) ?_
    show OGo p.tables e below _ (T1.setTop (mkF m 10 #[.val (.ref a1), .val (.int i), .val x, .val (.ref y)] [(.int i), (.ref ar)]))
    refine OGo.st (fun _ k_ => XS.aloadN X1.here hx rfl (hb hby own_d_prog_9_method_7_code_10) rfl hx_ k_) ?_
    show OGo p.tables e below _ (T1.setTop (mkF m 11 #[.val (.ref a1), .val (.int i), .val x, .val (.ref y)] [x, (.int i), (.ref ar)]))
    obtain ⟨T2, hz2, X2, ez2, W2, V2, st2⟩ := own_stR X1 hx hZ ez1 A_ar (j := i) (hi.resolve_left hc2) hx_ (own_sto A_ar or_ ox) (g := (mkF m 11 #[.val (.ref a1), .val (.int i), .val x, .val (.ref y)] [x, (.int i), (.ref ar)])) rfl rfl (hb hby own_d_prog_9_method_7_code_11)
    have F_3 := F_values_a1.other W2 (Or.inl (show @Ne Nat a1 ar by omega))
    have F_4 := F_readings_a1.other W2 (Or.inl (show @Ne Nat a1 ar by omega))
    have Af_5 := A_av.other W2 (show @Ne Nat av ar by omega)
    have N2 := Fr.snoc X2 N0 g_ar
    have K_6 : Keep h0 hz2 [ar, av] := (Keep.refl h0 [ar, av]).wr W2 (Or.inl (List.mem_of_getElem? (i := 0) rfl))
    refine OGo.st st2 ?_
    show OGo p.tables e below _ (T2.setTop (mkF m 12 #[.val (.ref a1), .val (.int i), .val x, .val (.ref y)] []))
    refine OGo.st (fun _ k_ => XS.aloadN X2.here hx rfl (hb hby own_d_prog_9_method_7_code_12) rfl rfl k_) ?_
    show OGo p.tables e below _ (T2.setTop (mkF m 13 #[.val (.ref a1), .val (.int i), .val x, .val (.ref y)] [(.ref a1)]))
    obtain ⟨T7, X7, ez7, st7⟩ := getF X2 hx hZ hown (host := "") (Or.inl (hw _ (List.mem_of_getElem? (i := 25) rfl))) Via.refl ez2 F_3 (g := (mkF m 13 #[.val (.ref a1), .val (.int i), .val x, .val (.ref y)] [(.ref a1)])) rfl rfl (hb hby own_d_prog_9_method_7_code_13)
    refine OGo.st st7 ?_
    show OGo p.tables e below _ (T7.setTop (mkF m 16 #[.val (.ref a1), .val (.int i), .val x, .val (.ref y)] [(.ref av)]))
    refine OGo.st (fun _ k_ => XS.iloadN X7.here hx rfl (hb hby own_d_prog_9_method_7_code_16) rfl k_) ?_
    show OGo p.tables e below _ (T7.setTop (mkF m 17 #[.val (.ref a1), .val (.int i), .val x, .val (.ref y)] [(.int i), (.ref av)]))
    refine OGo.st (fun _ k_ => XS.aloadN X7.here hx rfl (hb hby own_d_prog_9_method_7_code_17) rfl rfl k_) ?_
    show OGo p.tables e below _ (T7.setTop (mkF m 18 #[.val (.ref a1), .val (.int i), .val x, .val (.ref y)] [(.ref y), (.int i), (.ref av)]))
    obtain ⟨T8, hz8, X8, ez8, W8, V8, st8⟩ := own_stR X7 hx hZ ez7 Af_5 (j := i) (hi.resolve_left hc2) rfl (own_sto Af_5 ov (oy.wr W2)) (g := (mkF m 18 #[.val (.ref a1), .val (.int i), .val x, .val (.ref y)] [(.ref y), (.int i), (.ref av)])) rfl rfl (hb hby own_d_prog_9_method_7_code_18)
    have F_9 := F_3.other W8 (Or.inl (show @Ne Nat a1 av by omega))
    have F_10 := F_4.other W8 (Or.inl (show @Ne Nat a1 av by omega))
    have Af_11 := V2.other W8 (show @Ne Nat ar av by omega)
    have N8 := Fr.snoc X8 N2 g_av
    have K_12 : Keep h0 hz8 [ar, av] := K_6.wr W8 (Or.inl (List.mem_of_getElem? (i := 1) rfl))
    refine OGo.st st8 ?_
    show OGo p.tables e below _ (T8.setTop (mkF m 19 #[.val (.ref a1), .val (.int i), .val x, .val (.ref y)] []))
    refine OGo.fin X8 (v := none) (fun _ => rfl) hlk (fun fs hr => X8.returnOut hx Bd.returns (hb hby own_d_prog_9_method_7_code_19) hr) ?_ (by decide) (by decide)
    show own_Q_rm15 Z a1 i x y av ar kv kr fv fr h0 n0 _ T8.heap _
    rw [ez8]
    exact ⟨rfl, N8, K_12, by rw [own_kpY _ _ hc2]; exact V8, by rw [own_kpY _ _ hc2]; exact Af_11⟩
theorem own_pd6 : parseMethodDescriptor "([B)V" = some ⟨[(.array .byte)], none⟩ := by decide +kernel
theorem own_pd7 : parseMethodDescriptor "(II)I" = some ⟨[.int, .int], some .int⟩ := by decide +kernel
theorem own_pd8 : parseMethodDescriptor "(ILjava/lang/Object;Ljava/lang/Object;)Ljava/lang/Object;" = some ⟨[.int, (.object "java/lang/Object"), (.object "java/lang/Object")], some (.object "java/lang/Object")⟩ := by decide +kernel
theorem own_pd9 : parseMethodDescriptor "(ILjava/lang/Object;)Ljava/lang/Object;" = some ⟨[.int, (.object "java/lang/Object")], some (.object "java/lang/Object")⟩ := by decide +kernel
theorem own_pd10 : parseMethodDescriptor "(ILjava/lang/Object;Ljava/lang/Object;)V" = some ⟨[.int, (.object "java/lang/Object"), (.object "java/lang/Object")], none⟩ := by decide +kernel
theorem own_ef_rm0 (m : MethodId) (x0 : Int32) (x1 : Int32) (x2 : Int32) : entryFrame m #[(.int x0), (.int x1), (.int x2)] maxLocals = mkF m 0 #[.val (.int x0), .val (.int x1), .val (.int x2), .unset, .unset, .unset, .unset, .unset, .unset, .unset, .unset, .unset, .unset, .unset, .unset, .unset, .unset, .unset, .unset, .unset] [] := by first | (simp [entryFrame, mkF, argsToLocals, Value.category, maxLocals]; done) | rfl
def own_Q_rm0 (Z : State) (p1 p2 p3 : Int32) (h0 : Heap) (n0 : Nat) (v : Option Value) (h : Heap) (L : List Loc) : Prop := v = some (.int 1) ∧ Fr n0 L
set_option maxRecDepth 65536 in
set_option maxHeartbeats 40000000 in
theorem rm0 (l : Launch) (Z : State) (a0 : Array Value) (hw : ∀ d ∈ tables_1, d.before a0 Z = true) (ws : List Jvm.Cond) (p1 p2 p3 : Int32) (h0 : Heap) (n0 : Nat) (Z0 : n0 ≤ h0.size)  :
    OMet l Z x code maxLocals ret ws room_1 #[(.int p1), (.int p2), (.int p3)] h0 (own_Q_rm0 Z p1 p2 p3 h0 n0) := by
  refine MetFree.of_bodySF (plainFor_of_name own_pn3) hisR ?_
  intro p e s m args below meth c s₁ Bd hml0 hP hK
  obtain ⟨rfl, hZ, hh⟩ := hP
  have hx := Bd.exec
  have hby := Bd.bytes
  have hml : c.maxLocals = 20 := hml0
  have hown : s.vm.findClass "com/example/nodal_ledger/nodalledger/csv/DistinctFieldsValuePinLaw" = some m.cls := findClass_of_methodNamed Bd.named
  have hnm := (name_of_methodNamed Bd.named Bd.method).1
  have hlk : meth.locks = false := Bd.notSynchronized
  have X0 : Stand p l e room_1 s m #[(.int p1), (.int p2), (.int p3)] below meth c s₁ [] 0 0 := Stand.of_body Bd
  have e0 : s₁.heap = h0 := by rw [← hh, Bd.state]; rfl
  have N0 := Fr.nil n0
  refine OGo.enter (P := OPost s (own_Q_rm0 Z p1 p2 p3 h0 n0) room_1.cells room_1.slots) (own_ef_rm0 m p1 p2 p3) ?_
  show OGo p.tables e below _ (s₁.setTop (mkF m 0 #[.val (.int p1), .val (.int p2), .val (.int p3), .unset, .unset, .unset, .unset, .unset, .unset, .unset, .unset, .unset, .unset, .unset, .unset, .unset, .unset, .unset, .unset, .unset] []))
  refine OGo.st (fun _ k_ => XS.iconst X0.here hx rfl (hb hby at_0) k_) ?_
  show OGo p.tables e below _ (s₁.setTop (mkF m 1 #[.val (.int p1), .val (.int p2), .val (.int p3), .unset, .unset, .unset, .unset, .unset, .unset, .unset, .unset, .unset, .unset, .unset, .unset, .unset, .unset, .unset, .unset, .unset] [(.int (2 : Int32))]))
  obtain ⟨T1, hz1, kz1, X1, ez1, Ez1, Az1, st1⟩ := newP X0 hx hZ (hw _ (List.mem_of_getElem? (i := 0) rfl)) e0 (g := (mkF m 1 #[.val (.int p1), .val (.int p2), .val (.int p3), .unset, .unset, .unset, .unset, .unset, .unset, .unset, .unset, .unset, .unset, .unset, .unset, .unset, .unset, .unset, .unset, .unset] [(.int (2 : Int32))])) rfl (hb hby at_1) rfl (by decide) (cap := 2) (by decide) (by decide) (by decide) (by decide)
  obtain ⟨bz1, g1⟩ : ∃ z, z = h0.size := ⟨_, rfl⟩
  rw [← g1] at Az1 st1
  have g_bz1 : n0 ≤ bz1 := Nat.le_trans (Nat.le_trans Z0 (Keep.refl h0 []).1) (Nat.le_of_eq g1.symm)
  have sz_bz1 : h0.size ≤ bz1 := Nat.le_trans (Keep.refl h0 []).1 (Nat.le_of_eq g1.symm)
  have K_2 : Keep h0 hz1 [] := (Keep.refl h0 []).ext Ez1
  have V_bz1 : Arf Z hz1 bz1 kz1 .byte (2 : Int32) (fun _ => (.int (0 : Int32))) := own_new Az1 (by decide)
  refine OGo.st st1 ?_
  show OGo p.tables e below _ (T1.setTop (mkF m 3 #[.val (.int p1), .val (.int p2), .val (.int p3), .unset, .unset, .unset, .unset, .unset, .unset, .unset, .unset, .unset, .unset, .unset, .unset, .unset, .unset, .unset, .unset, .unset] [(.ref bz1)]))
  refine OGo.st (fun _ k_ => XS.astoreN X1.here hx rfl (hb hby at_3) rfl rfl (l' := #[.val (.int p1), .val (.int p2), .val (.int p3), .val (.ref bz1), .unset, .unset, .unset, .unset, .unset, .unset, .unset, .unset, .unset, .unset, .unset, .unset, .unset, .unset, .unset, .unset]) rfl k_) ?_
  show OGo p.tables e below _ (T1.setTop (mkF m 4 #[.val (.int p1), .val (.int p2), .val (.int p3), .val (.ref bz1), .unset, .unset, .unset, .unset, .unset, .unset, .unset, .unset, .unset, .unset, .unset, .unset, .unset, .unset, .unset, .unset] []))
  refine OGo.st (fun _ k_ => XS.aloadN X1.here hx rfl (hb hby at_4) rfl rfl k_) ?_
  show OGo p.tables e below _ (T1.setTop (mkF m 5 #[.val (.int p1), .val (.int p2), .val (.int p3), .val (.ref bz1), .unset, .unset, .unset, .unset, .unset, .unset, .unset, .unset, .unset, .unset, .unset, .unset, .unset, .unset, .unset, .unset] [(.ref bz1)]))
  refine OGo.st (fun _ k_ => XS.iconst X1.here hx rfl (hb hby at_5) k_) ?_
  show OGo p.tables e below _ (T1.setTop (mkF m 6 #[.val (.int p1), .val (.int p2), .val (.int p3), .val (.ref bz1), .unset, .unset, .unset, .unset, .unset, .unset, .unset, .unset, .unset, .unset, .unset, .unset, .unset, .unset, .unset, .unset] [(.int (0 : Int32)), (.ref bz1)]))
  refine OGo.st (fun _ k_ => XS.iloadN X1.here hx rfl (hb hby at_6) rfl k_) ?_
  show OGo p.tables e below _ (T1.setTop (mkF m 7 #[.val (.int p1), .val (.int p2), .val (.int p3), .val (.ref bz1), .unset, .unset, .unset, .unset, .unset, .unset, .unset, .unset, .unset, .unset, .unset, .unset, .unset, .unset, .unset, .unset] [(.int p1), (.int (0 : Int32)), (.ref bz1)]))
  refine OGo.st (fun _ k_ => XS.i2b X1.here hx rfl (hb hby at_7) rfl k_) ?_
  show OGo p.tables e below _ (T1.setTop (mkF m 8 #[.val (.int p1), .val (.int p2), .val (.int p3), .val (.ref bz1), .unset, .unset, .unset, .unset, .unset, .unset, .unset, .unset, .unset, .unset, .unset, .unset, .unset, .unset, .unset, .unset] [(.int p1.toInt8.toInt32), (.int (0 : Int32)), (.ref bz1)]))
  obtain ⟨T3, hz3, X3, ez3, W3, V3, st3⟩ := own_stB X1 hx hZ ez1 V_bz1 (j := (0 : Int32)) (by decide)  (g := (mkF m 8 #[.val (.int p1), .val (.int p2), .val (.int p3), .val (.ref bz1), .unset, .unset, .unset, .unset, .unset, .unset, .unset, .unset, .unset, .unset, .unset, .unset, .unset, .unset, .unset, .unset] [(.int p1.toInt8.toInt32), (.int (0 : Int32)), (.ref bz1)])) rfl rfl (hb hby at_8)
  have N3 := Fr.snoc X3 N0 g_bz1
  have K_4 : Keep h0 hz3 [] := K_2.wr W3 (Or.inr sz_bz1)
  refine OGo.st st3 ?_
  show OGo p.tables e below _ (T3.setTop (mkF m 9 #[.val (.int p1), .val (.int p2), .val (.int p3), .val (.ref bz1), .unset, .unset, .unset, .unset, .unset, .unset, .unset, .unset, .unset, .unset, .unset, .unset, .unset, .unset, .unset, .unset] []))
  refine OGo.st (fun _ k_ => XS.aloadN X3.here hx rfl (hb hby at_9) rfl rfl k_) ?_
  show OGo p.tables e below _ (T3.setTop (mkF m 10 #[.val (.int p1), .val (.int p2), .val (.int p3), .val (.ref bz1), .unset, .unset, .unset, .unset, .unset, .unset, .unset, .unset, .unset, .unset, .unset, .unset, .unset, .unset, .unset, .unset] [(.ref bz1)]))
  refine OGo.st (fun _ k_ => XS.iconst X3.here hx rfl (hb hby at_10) k_) ?_
  show OGo p.tables e below _ (T3.setTop (mkF m 11 #[.val (.int p1), .val (.int p2), .val (.int p3), .val (.ref bz1), .unset, .unset, .unset, .unset, .unset, .unset, .unset, .unset, .unset, .unset, .unset, .unset, .unset, .unset, .unset, .unset] [(.int (1 : Int32)), (.ref bz1)]))
  refine OGo.st (fun _ k_ => XS.iloadN X3.here hx rfl (hb hby at_11) rfl k_) ?_
  show OGo p.tables e below _ (T3.setTop (mkF m 12 #[.val (.int p1), .val (.int p2), .val (.int p3), .val (.ref bz1), .unset, .unset, .unset, .unset, .unset, .unset, .unset, .unset, .unset, .unset, .unset, .unset, .unset, .unset, .unset, .unset] [(.int p2), (.int (1 : Int32)), (.ref bz1)]))
  refine OGo.st (fun _ k_ => XS.i2b X3.here hx rfl (hb hby at_12) rfl k_) ?_
  show OGo p.tables e below _ (T3.setTop (mkF m 13 #[.val (.int p1), .val (.int p2), .val (.int p3), .val (.ref bz1), .unset, .unset, .unset, .unset, .unset, .unset, .unset, .unset, .unset, .unset, .unset, .unset, .unset, .unset, .unset, .unset] [(.int p2.toInt8.toInt32), (.int (1 : Int32)), (.ref bz1)]))
  obtain ⟨T5, hz5, X5, ez5, W5, V5, st5⟩ := own_stB X3 hx hZ ez3 V3 (j := (1 : Int32)) (by decide)  (g := (mkF m 13 #[.val (.int p1), .val (.int p2), .val (.int p3), .val (.ref bz1), .unset, .unset, .unset, .unset, .unset, .unset, .unset, .unset, .unset, .unset, .unset, .unset, .unset, .unset, .unset, .unset] [(.int p2.toInt8.toInt32), (.int (1 : Int32)), (.ref bz1)])) rfl rfl (hb hby at_13)
  have N5 := Fr.snoc X5 N3 g_bz1
  have K_6 : Keep h0 hz5 [] := K_4.wr W5 (Or.inr sz_bz1)
  refine OGo.st st5 ?_
  have Af_7 : Arf Z hz5 bz1 kz1 .byte (2 : Int32) (own_B (nar .byte p1.toInt8.toInt32) (nar .byte p2.toInt8.toInt32)) := V5.congr (own_BB _ _)
  obtain ⟨b0, hb0⟩ : ∃ z : Int32, z = (nar .byte p1.toInt8.toInt32) := ⟨_, rfl⟩
  obtain ⟨b1, hb1⟩ : ∃ z : Int32, z = (nar .byte p2.toInt8.toInt32) := ⟨_, rfl⟩
  have AfB : Arf Z hz5 bz1 kz1 .byte (2 : Int32) (own_B b0 b1) := by rw [hb0, hb1]; exact Af_7
  show OGo p.tables e below _ (T5.setTop (mkF m 14 #[.val (.int p1), .val (.int p2), .val (.int p3), .val (.ref bz1), .unset, .unset, .unset, .unset, .unset, .unset, .unset, .unset, .unset, .unset, .unset, .unset, .unset, .unset, .unset, .unset] []))
  obtain ⟨T8, hz8, X8, ez8, Ez8, Az8, Dz8, -, st8⟩ := newO X5 hx hZ hown (hw _ (List.mem_of_getElem? (i := 1) rfl)) (hw _ (List.mem_of_getElem? (i := 2) rfl)) (hw _ (List.mem_of_getElem? (i := 3) rfl)) ez5 (g := (mkF m 14 #[.val (.int p1), .val (.int p2), .val (.int p3), .val (.ref bz1), .unset, .unset, .unset, .unset, .unset, .unset, .unset, .unset, .unset, .unset, .unset, .unset, .unset, .unset, .unset, .unset] [])) rfl (hb hby at_14) (by decide) (by decide)
  obtain ⟨bz8, g8⟩ : ∃ z, z = hz5.size := ⟨_, rfl⟩
  rw [← g8] at Az8 Dz8 st8
  have lt_bz1_bz8 : @LT.lt Nat instLTNat bz1 bz8 := Nat.lt_of_lt_of_le AfB.lt (Nat.le_of_eq g8.symm)
  have g_bz8 : n0 ≤ bz8 := Nat.le_trans (Nat.le_trans Z0 K_6.1) (Nat.le_of_eq g8.symm)
  have sz_bz8 : h0.size ≤ bz8 := Nat.le_trans K_6.1 (Nat.le_of_eq g8.symm)
  have Af_9 := AfB.ext Ez8
  have K_10 : Keep h0 hz8 [] := K_6.ext Ez8
  have F_table_8 : Fld Z hz8 bz8 "com/example/nodal_ledger/nodalledger/csv/DistinctFields" "table" "[I" .null := Dz8 (Or.inl (hw _ (List.mem_of_getElem? (i := 12) rfl))) (ty := (.array .int)) (by decide)
  have F_hashes_8 : Fld Z hz8 bz8 "com/example/nodal_ledger/nodalledger/csv/DistinctFields" "hashes" "[I" .null := Dz8 (Or.inl (hw _ (List.mem_of_getElem? (i := 14) rfl))) (ty := (.array .int)) (by decide)
  have F_starts_8 : Fld Z hz8 bz8 "com/example/nodal_ledger/nodalledger/csv/DistinctFields" "starts" "[I" .null := Dz8 (Or.inl (hw _ (List.mem_of_getElem? (i := 16) rfl))) (ty := (.array .int)) (by decide)
  have F_ends_8 : Fld Z hz8 bz8 "com/example/nodal_ledger/nodalledger/csv/DistinctFields" "ends" "[I" .null := Dz8 (Or.inl (hw _ (List.mem_of_getElem? (i := 18) rfl))) (ty := (.array .int)) (by decide)
  have F_texts_8 : Fld Z hz8 bz8 "com/example/nodal_ledger/nodalledger/csv/DistinctFields" "texts" "[Ljava/lang/String;" .null := Dz8 (Or.inl (hw _ (List.mem_of_getElem? (i := 22) rfl))) (ty := (.array (.object "java/lang/String"))) (by decide)
  have F_values_8 : Fld Z hz8 bz8 "com/example/nodal_ledger/nodalledger/csv/DistinctFields" "values" "[Ljava/lang/Object;" .null := Dz8 (Or.inl (hw _ (List.mem_of_getElem? (i := 26) rfl))) (ty := (.array (.object "java/lang/Object"))) (by decide)
  have F_readings_8 : Fld Z hz8 bz8 "com/example/nodal_ledger/nodalledger/csv/DistinctFields" "readings" "[Ljava/lang/Object;" .null := Dz8 (Or.inl (hw _ (List.mem_of_getElem? (i := 28) rfl))) (ty := (.array (.object "java/lang/Object"))) (by decide)
  have F_bytes_8 : Fld Z hz8 bz8 "com/example/nodal_ledger/nodalledger/csv/DistinctFields" "bytes" "[B" .null := Dz8 (Or.inr (hw _ (List.mem_of_getElem? (i := 30) rfl))) (ty := (.array .byte)) (by decide)
  have F_count_8 : Fld Z hz8 bz8 "com/example/nodal_ledger/nodalledger/csv/DistinctFields" "count" "I" (.int (0 : Int32)) := Dz8 (Or.inl (hw _ (List.mem_of_getElem? (i := 48) rfl))) (ty := .int) (by decide)
  refine OGo.st st8 ?_
  show OGo p.tables e below _ (T8.setTop (mkF m 17 #[.val (.int p1), .val (.int p2), .val (.int p3), .val (.ref bz1), .unset, .unset, .unset, .unset, .unset, .unset, .unset, .unset, .unset, .unset, .unset, .unset, .unset, .unset, .unset, .unset] [(.ref bz8)]))
  refine OGo.st (fun _ k_ => XS.dup X8.here hx rfl (hb hby at_17) rfl rfl k_) ?_
  show OGo p.tables e below _ (T8.setTop (mkF m 18 #[.val (.int p1), .val (.int p2), .val (.int p3), .val (.ref bz1), .unset, .unset, .unset, .unset, .unset, .unset, .unset, .unset, .unset, .unset, .unset, .unset, .unset, .unset, .unset, .unset] [(.ref bz8), (.ref bz8)]))
  refine OGo.st (fun _ k_ => XS.aloadN X8.here hx rfl (hb hby at_18) rfl rfl k_) ?_
  show OGo p.tables e below _ (T8.setTop (mkF m 19 #[.val (.int p1), .val (.int p2), .val (.int p3), .val (.ref bz1), .unset, .unset, .unset, .unset, .unset, .unset, .unset, .unset, .unset, .unset, .unset, .unset, .unset, .unset, .unset, .unset] [(.ref bz1), (.ref bz8), (.ref bz8)]))
  obtain ⟨_, _, ⟨T11, Lz11, kz11, nz11⟩, -, X11, ⟨Lc11, hQ11, lz11, yz11, zz11⟩, st11⟩ := X8.specialBack hx (y := (⟨"com/example/nodal_ledger/nodalledger/csv/DistinctFields", "<init>", "([B)V"⟩ : MethodName)) rfl hown (mvT hZ (hw _ (List.mem_of_getElem? (i := 4) rfl))) (mvT hZ (hw _ (List.mem_of_getElem? (i := 5) rfl))) (mvT hZ (hw _ (List.mem_of_getElem? (i := 6) rfl))) (by decide) (backOf (W := 1) (rm1 l Z a0 hw [] bz8 bz1 hz8 n0 (Nat.le_trans Z0 K_10.1) Az8 F_table_8 F_hashes_8 F_starts_8 F_ends_8 F_texts_8 F_values_8 F_readings_8 F_bytes_8 F_count_8 g_bz8) hZ (hw _ (List.mem_of_getElem? (i := 6) rfl)) (hw _ (List.mem_of_getElem? (i := 3) rfl)) (by decide) (by decide)) (g := (mkF m 19 #[.val (.int p1), .val (.int p2), .val (.int p3), .val (.ref bz1), .unset, .unset, .unset, .unset, .unset, .unset, .unset, .unset, .unset, .unset, .unset, .unset, .unset, .unset, .unset, .unset] [(.ref bz1), (.ref bz8), (.ref bz8)])) rfl (by rw [hml]; rfl) (Steps.refl _) (a := bz8) (argsL := [(.ref bz1)]) (rest := [(.ref bz8)]) (lenOf own_pd6 rfl) rfl (by show 2 * 0 + _ ≤ _; exact Nat.le_of_eq rfl) (hb hby at_19) (fun _ _ => ⟨rfl, ez8, (by decide : 2 + 7 ≤ _), (by decide : 11 + 4096 ≤ _)⟩)
  dsimp only [Pt.U, Pt.locs, Pt.cells, Pt.slots] at X11 lz11 yz11 zz11 st11 hQ11
  subst lz11 yz11 zz11
  have ltO11 : @LT.lt Nat instLTNat bz8 hz8.size := Az8.lt
  obtain ⟨rfl, Nq11, Kq11, at_11, ah11, as_11, ae11, av11, ar11, kt11, kh11, ks11, ke11, kv11, kr11, szq11, lq11_0, lq11_1, lq11_2, lq11_3, lq11_4, ff11_0, ff11_1, ff11_2, ff11_3, ff11_4, ff11_5, ff11_6, ff11_7, fa11_0, fa11_1, fa11_2, fa11_3, fa11_4, fa11_5, ov11, or11⟩ := hQ11
  have N11 := Fr.app N5 Nq11
  have gq11 : n0 ≤ at_11 := Nat.le_trans (Nat.le_trans Z0 K_10.1) szq11
  have sq11 : h0.size ≤ at_11 := Nat.le_trans K_10.1 szq11
  have Af_12 := Af_9.keep Kq11 (ninS (Nat.ne_of_lt lt_bz1_bz8) nin0)
  have Ex_13 := Az8.keep Kq11
  have K_14 : Keep h0 T11.heap [] := K_10.trans Kq11 (allS (Or.inr sz_bz8) all0)
  refine OGo.tr st11 ?_
  show OGo p.tables e below _ (T11.setTop (mkF m 22 #[.val (.int p1), .val (.int p2), .val (.int p3), .val (.ref bz1), .unset, .unset, .unset, .unset, .unset, .unset, .unset, .unset, .unset, .unset, .unset, .unset, .unset, .unset, .unset, .unset] [(.ref bz8)]))
  refine OGo.st (fun _ k_ => XS.astore X11.here hx rfl (hb hby at_22) rfl rfl (l' := #[.val (.int p1), .val (.int p2), .val (.int p3), .val (.ref bz1), .val (.ref bz8), .unset, .unset, .unset, .unset, .unset, .unset, .unset, .unset, .unset, .unset, .unset, .unset, .unset, .unset, .unset]) rfl k_) ?_
  show OGo p.tables e below _ (T11.setTop (mkF m 24 #[.val (.int p1), .val (.int p2), .val (.int p3), .val (.ref bz1), .val (.ref bz8), .unset, .unset, .unset, .unset, .unset, .unset, .unset, .unset, .unset, .unset, .unset, .unset, .unset, .unset, .unset] []))
  refine OGo.st (fun _ k_ => XS.aload X11.here hx rfl (hb hby at_24) rfl rfl k_) ?_
  show OGo p.tables e below _ (T11.setTop (mkF m 26 #[.val (.int p1), .val (.int p2), .val (.int p3), .val (.ref bz1), .val (.ref bz8), .unset, .unset, .unset, .unset, .unset, .unset, .unset, .unset, .unset, .unset, .unset, .unset, .unset, .unset, .unset] [(.ref bz8)]))
  refine OGo.st (fun _ k_ => XS.iconst X11.here hx rfl (hb hby at_26) k_) ?_
  show OGo p.tables e below _ (T11.setTop (mkF m 27 #[.val (.int p1), .val (.int p2), .val (.int p3), .val (.ref bz1), .val (.ref bz8), .unset, .unset, .unset, .unset, .unset, .unset, .unset, .unset, .unset, .unset, .unset, .unset, .unset, .unset, .unset] [(.int (0 : Int32)), (.ref bz8)]))
  refine OGo.st (fun _ k_ => XS.iconst X11.here hx rfl (hb hby at_27) k_) ?_
  show OGo p.tables e below _ (T11.setTop (mkF m 28 #[.val (.int p1), .val (.int p2), .val (.int p3), .val (.ref bz1), .val (.ref bz8), .unset, .unset, .unset, .unset, .unset, .unset, .unset, .unset, .unset, .unset, .unset, .unset, .unset, .unset, .unset] [(.int (1 : Int32)), (.int (0 : Int32)), (.ref bz8)]))
  obtain ⟨cq15, kqz15, qz15a, qz15b, qz15c⟩ := isOf hZ rfl Ex_13
  obtain ⟨_, _, ⟨T15, Lz15, kz15, nz15⟩, -, X15, ⟨Lc15, hQ15, lz15, yz15, zz15⟩, st15⟩ := X11.virtualBack hx (y := (⟨"com/example/nodal_ledger/nodalledger/csv/DistinctFields", "slot", "(II)I"⟩ : MethodName)) (z := (⟨"com/example/nodal_ledger/nodalledger/csv/DistinctFields", "slot", "(II)I"⟩ : MethodName)) hown (mvT hZ (hw _ (List.mem_of_getElem? (i := 31) rfl))) (mvT hZ (hw _ (List.mem_of_getElem? (i := 32) rfl))) (notFace_of_selects (args := #[]) (mvT hZ (hw _ (List.mem_of_getElem? (i := 34) rfl)))) (mvT hZ (hw _ (List.mem_of_getElem? (i := 34) rfl))) (mvT hZ (hw _ (List.mem_of_getElem? (i := 33) rfl))) (by decide) (backOf (W := 0) (rm10 l Z a0 hw [] bz8 b0 b1 at_11 ah11 as_11 ae11 av11 ar11 bz1 kt11 kh11 ks11 ke11 kz1 T11.heap n0 (Nat.le_trans Z0 K_14.1) Ex_13 ff11_0 ff11_1 ff11_2 ff11_3 ff11_4 ff11_5 ff11_6 ff11_7 g_bz8 fa11_0 (show n0 ≤ at_11 by omega) fa11_1 (show n0 ≤ ah11 by omega) fa11_2 (show n0 ≤ as_11 by omega) fa11_3 (show n0 ≤ ae11 by omega) Af_12 (by omega) (by omega) (by omega) (by omega) (by omega) (by omega) (by omega)) hZ (hw _ (List.mem_of_getElem? (i := 35) rfl)) (hw _ (List.mem_of_getElem? (i := 3) rfl)) (by decide) (by decide)) qz15a qz15c (g := (mkF m 28 #[.val (.int p1), .val (.int p2), .val (.int p3), .val (.ref bz1), .val (.ref bz8), .unset, .unset, .unset, .unset, .unset, .unset, .unset, .unset, .unset, .unset, .unset, .unset, .unset, .unset, .unset] [(.int (1 : Int32)), (.int (0 : Int32)), (.ref bz8)])) rfl (by rw [hml]; rfl) (Steps.refl _) (argsL := [(.int (0 : Int32)), (.int (1 : Int32))]) (rest := []) (lenOf own_pd7 rfl) rfl (by show 2 * 0 + _ ≤ _; exact Nat.le_of_eq rfl) (hb hby at_28) (fun _ _ => ⟨rfl, rfl, (by decide : 9 + 0 ≤ _), (by decide : 4107 + 0 ≤ _)⟩)
  dsimp only [Pt.U, Pt.locs, Pt.cells, Pt.slots] at X15 lz15 yz15 zz15 st15 hQ15
  subst lz15 yz15 zz15
  obtain ⟨rfl, Nq15, Kq15, ff15_0, ff15_1, ff15_2, ff15_3, ff15_4, ff15_5, ff15_6, ff15_7, ff15_8, ff15_9, ff15_10, ff15_11⟩ := hQ15
  have N15 := Fr.app N11 Nq15
  have Af_16 := Af_12.keep Kq15 (ninS (Nat.ne_of_lt lt_bz1_bz8) (ninS (show @Ne Nat bz1 at_11 by omega) (ninS (show @Ne Nat bz1 ah11 by omega) (ninS (show @Ne Nat bz1 as_11 by omega) (ninS (show @Ne Nat bz1 ae11 by omega) nin0)))))
  have Ex_17 := Ex_13.keep Kq15
  have Af_18 := fa11_4.keep Kq15 (ninS (show @Ne Nat av11 bz8 by omega) (ninS (show @Ne Nat av11 at_11 by omega) (ninS (show @Ne Nat av11 ah11 by omega) (ninS (show @Ne Nat av11 as_11 by omega) (ninS (show @Ne Nat av11 ae11 by omega) nin0)))))
  have Af_19 := fa11_5.keep Kq15 (ninS (show @Ne Nat ar11 bz8 by omega) (ninS (show @Ne Nat ar11 at_11 by omega) (ninS (show @Ne Nat ar11 ah11 by omega) (ninS (show @Ne Nat ar11 as_11 by omega) (ninS (show @Ne Nat ar11 ae11 by omega) nin0)))))
  have K_20 : Keep h0 T15.heap [] := K_14.trans Kq15 (allS (Or.inr sz_bz8) (allS (Or.inr (show h0.size ≤ at_11 by omega)) (allS (Or.inr (show h0.size ≤ ah11 by omega)) (allS (Or.inr (show h0.size ≤ as_11 by omega)) (allS (Or.inr (show h0.size ≤ ae11 by omega)) all0)))))
  refine OGo.tr st15 ?_
  show OGo p.tables e below _ (T15.setTop (mkF m 31 #[.val (.int p1), .val (.int p2), .val (.int p3), .val (.ref bz1), .val (.ref bz8), .unset, .unset, .unset, .unset, .unset, .unset, .unset, .unset, .unset, .unset, .unset, .unset, .unset, .unset, .unset] [(.int (0 : Int32))]))
  refine OGo.st (fun _ k_ => XS.istore X15.here hx rfl (hb hby at_31) rfl (l' := #[.val (.int p1), .val (.int p2), .val (.int p3), .val (.ref bz1), .val (.ref bz8), .val (.int (0 : Int32)), .unset, .unset, .unset, .unset, .unset, .unset, .unset, .unset, .unset, .unset, .unset, .unset, .unset, .unset]) rfl k_) ?_
  show OGo p.tables e below _ (T15.setTop (mkF m 33 #[.val (.int p1), .val (.int p2), .val (.int p3), .val (.ref bz1), .val (.ref bz8), .val (.int (0 : Int32)), .unset, .unset, .unset, .unset, .unset, .unset, .unset, .unset, .unset, .unset, .unset, .unset, .unset, .unset] []))
  refine OGo.st (fun _ k_ => XS.aload X15.here hx rfl (hb hby at_33) rfl rfl k_) ?_
  show OGo p.tables e below _ (T15.setTop (mkF m 35 #[.val (.int p1), .val (.int p2), .val (.int p3), .val (.ref bz1), .val (.ref bz8), .val (.int (0 : Int32)), .unset, .unset, .unset, .unset, .unset, .unset, .unset, .unset, .unset, .unset, .unset, .unset, .unset, .unset] [(.ref bz8)]))
  refine OGo.st (fun _ k_ => XS.iconst X15.here hx rfl (hb hby at_35) k_) ?_
  show OGo p.tables e below _ (T15.setTop (mkF m 36 #[.val (.int p1), .val (.int p2), .val (.int p3), .val (.ref bz1), .val (.ref bz8), .val (.int (0 : Int32)), .unset, .unset, .unset, .unset, .unset, .unset, .unset, .unset, .unset, .unset, .unset, .unset, .unset, .unset] [(.int (1 : Int32)), (.ref bz8)]))
  refine OGo.st (fun _ k_ => XS.iconst X15.here hx rfl (hb hby at_36) k_) ?_
  show OGo p.tables e below _ (T15.setTop (mkF m 37 #[.val (.int p1), .val (.int p2), .val (.int p3), .val (.ref bz1), .val (.ref bz8), .val (.int (0 : Int32)), .unset, .unset, .unset, .unset, .unset, .unset, .unset, .unset, .unset, .unset, .unset, .unset, .unset, .unset] [(.int (2 : Int32)), (.int (1 : Int32)), (.ref bz8)]))
  obtain ⟨cq21, kqz21, qz21a, qz21b, qz21c⟩ := isOf hZ rfl Ex_17
  obtain ⟨_, _, ⟨T21, Lz21, kz21, nz21⟩, -, X21, ⟨Lc21, hQ21, lz21, yz21, zz21⟩, st21⟩ := X15.virtualBack hx (y := (⟨"com/example/nodal_ledger/nodalledger/csv/DistinctFields", "slot", "(II)I"⟩ : MethodName)) (z := (⟨"com/example/nodal_ledger/nodalledger/csv/DistinctFields", "slot", "(II)I"⟩ : MethodName)) hown (mvT hZ (hw _ (List.mem_of_getElem? (i := 31) rfl))) (mvT hZ (hw _ (List.mem_of_getElem? (i := 32) rfl))) (notFace_of_selects (args := #[]) (mvT hZ (hw _ (List.mem_of_getElem? (i := 34) rfl)))) (mvT hZ (hw _ (List.mem_of_getElem? (i := 34) rfl))) (mvT hZ (hw _ (List.mem_of_getElem? (i := 33) rfl))) (by decide) (backOf (W := 0) (rm11 l Z a0 hw [] bz8 b0 b1 at_11 ah11 as_11 ae11 av11 ar11 bz1 kt11 kh11 ks11 ke11 kz1 T15.heap n0 (Nat.le_trans Z0 K_20.1) Ex_17 ff15_0 ff15_1 ff15_2 ff15_3 ff15_4 ff15_5 ff15_6 ff15_7 g_bz8 ff15_8 (show n0 ≤ at_11 by omega) ff15_9 (show n0 ≤ ah11 by omega) ff15_10 (show n0 ≤ as_11 by omega) ff15_11 (show n0 ≤ ae11 by omega) Af_16 (by omega) (by omega) (by omega) (by omega) (by omega) (by omega) (by omega)) hZ (hw _ (List.mem_of_getElem? (i := 35) rfl)) (hw _ (List.mem_of_getElem? (i := 3) rfl)) (by decide) (by decide)) qz21a qz21c (g := (mkF m 37 #[.val (.int p1), .val (.int p2), .val (.int p3), .val (.ref bz1), .val (.ref bz8), .val (.int (0 : Int32)), .unset, .unset, .unset, .unset, .unset, .unset, .unset, .unset, .unset, .unset, .unset, .unset, .unset, .unset] [(.int (2 : Int32)), (.int (1 : Int32)), (.ref bz8)])) rfl (by rw [hml]; rfl) (Steps.refl _) (argsL := [(.int (1 : Int32)), (.int (2 : Int32))]) (rest := []) (lenOf own_pd7 rfl) rfl (by show 2 * 0 + _ ≤ _; exact Nat.le_of_eq rfl) (hb hby at_37) (fun _ _ => ⟨rfl, rfl, (by decide : 9 + 0 ≤ _), (by decide : 4107 + 0 ≤ _)⟩)
  dsimp only [Pt.U, Pt.locs, Pt.cells, Pt.slots] at X21 lz21 yz21 zz21 st21 hQ21
  subst lz21 yz21 zz21
  obtain ⟨sl21, rfl, hsl21, Nq21, Kq21, ff21_0, ff21_1, ff21_2, ff21_3, ff21_4, ff21_5, ff21_6⟩ := hQ21
  have N21 := Fr.app N15 Nq21
  have Af_22 := Af_16.keep Kq21 (ninS (Nat.ne_of_lt lt_bz1_bz8) (ninS (show @Ne Nat bz1 at_11 by omega) (ninS (show @Ne Nat bz1 ah11 by omega) (ninS (show @Ne Nat bz1 as_11 by omega) (ninS (show @Ne Nat bz1 ae11 by omega) nin0)))))
  have Ex_23 := Ex_17.keep Kq21
  have Af_24 := Af_18.keep Kq21 (ninS (show @Ne Nat av11 bz8 by omega) (ninS (show @Ne Nat av11 at_11 by omega) (ninS (show @Ne Nat av11 ah11 by omega) (ninS (show @Ne Nat av11 as_11 by omega) (ninS (show @Ne Nat av11 ae11 by omega) nin0)))))
  have Af_25 := Af_19.keep Kq21 (ninS (show @Ne Nat ar11 bz8 by omega) (ninS (show @Ne Nat ar11 at_11 by omega) (ninS (show @Ne Nat ar11 ah11 by omega) (ninS (show @Ne Nat ar11 as_11 by omega) (ninS (show @Ne Nat ar11 ae11 by omega) nin0)))))
  have K_26 : Keep h0 T21.heap [] := K_20.trans Kq21 (allS (Or.inr sz_bz8) (allS (Or.inr (show h0.size ≤ at_11 by omega)) (allS (Or.inr (show h0.size ≤ ah11 by omega)) (allS (Or.inr (show h0.size ≤ as_11 by omega)) (allS (Or.inr (show h0.size ≤ ae11 by omega)) all0)))))
  refine OGo.tr st21 ?_
  show OGo p.tables e below _ (T21.setTop (mkF m 40 #[.val (.int p1), .val (.int p2), .val (.int p3), .val (.ref bz1), .val (.ref bz8), .val (.int (0 : Int32)), .unset, .unset, .unset, .unset, .unset, .unset, .unset, .unset, .unset, .unset, .unset, .unset, .unset, .unset] [(.int sl21)]))
  refine OGo.st (fun _ k_ => XS.istore X21.here hx rfl (hb hby at_40) rfl (l' := #[.val (.int p1), .val (.int p2), .val (.int p3), .val (.ref bz1), .val (.ref bz8), .val (.int (0 : Int32)), .val (.int sl21), .unset, .unset, .unset, .unset, .unset, .unset, .unset, .unset, .unset, .unset, .unset, .unset, .unset]) rfl k_) ?_
  show OGo p.tables e below _ (T21.setTop (mkF m 42 #[.val (.int p1), .val (.int p2), .val (.int p3), .val (.ref bz1), .val (.ref bz8), .val (.int (0 : Int32)), .val (.int sl21), .unset, .unset, .unset, .unset, .unset, .unset, .unset, .unset, .unset, .unset, .unset, .unset, .unset] []))
  refine OGo.st (fun _ k_ => XS.iconst X21.here hx rfl (hb hby at_42) k_) ?_
  show OGo p.tables e below _ (T21.setTop (mkF m 43 #[.val (.int p1), .val (.int p2), .val (.int p3), .val (.ref bz1), .val (.ref bz8), .val (.int (0 : Int32)), .val (.int sl21), .unset, .unset, .unset, .unset, .unset, .unset, .unset, .unset, .unset, .unset, .unset, .unset, .unset] [(.int (1 : Int32))]))
  obtain ⟨T27, hz27, kz27, X27, ez27, Ez27, Az27, Q27, st27⟩ := newPE X21 hx hZ (hw _ (List.mem_of_getElem? (i := 10) rfl)) rfl (g := (mkF m 43 #[.val (.int p1), .val (.int p2), .val (.int p3), .val (.ref bz1), .val (.ref bz8), .val (.int (0 : Int32)), .val (.int sl21), .unset, .unset, .unset, .unset, .unset, .unset, .unset, .unset, .unset, .unset, .unset, .unset, .unset] [(.int (1 : Int32))])) rfl (hb hby at_43) rfl (by decide) (cap := 1) (by decide) (by decide) (by decide) (by decide) (ad := "[I") (by rfl)
  obtain ⟨bz27, g27⟩ : ∃ z, z = T21.heap.size := ⟨_, rfl⟩
  rw [← g27] at Az27 Q27 st27
  have lt_bz1_bz27 : @LT.lt Nat instLTNat bz1 bz27 := Nat.lt_of_lt_of_le Af_22.lt (Nat.le_of_eq g27.symm)
  have lt_bz8_bz27 : @LT.lt Nat instLTNat bz8 bz27 := Nat.lt_of_lt_of_le Ex_23.lt (Nat.le_of_eq g27.symm)
  have lt_av11_bz27 : @LT.lt Nat instLTNat av11 bz27 := Nat.lt_of_lt_of_le Af_24.lt (Nat.le_of_eq g27.symm)
  have lt_ar11_bz27 : @LT.lt Nat instLTNat ar11 bz27 := Nat.lt_of_lt_of_le Af_25.lt (Nat.le_of_eq g27.symm)
  have g_bz27 : n0 ≤ bz27 := Nat.le_trans (Nat.le_trans Z0 K_26.1) (Nat.le_of_eq g27.symm)
  have sz_bz27 : h0.size ≤ bz27 := Nat.le_trans K_26.1 (Nat.le_of_eq g27.symm)
  have Af_28 := Af_22.ext Ez27
  have Ex_29 := Ex_23.ext Ez27
  have Af_30 := Af_24.ext Ez27
  have Af_31 := Af_25.ext Ez27
  have F_32 := ff21_0.ext Ez27
  have F_33 := ff21_1.ext Ez27
  have F_34 := ff21_2.ext Ez27
  have F_35 := ff21_3.ext Ez27
  have F_36 := ff21_4.ext Ez27
  have F_37 := ff21_5.ext Ez27
  have F_38 := ff21_6.ext Ez27
  have K_39 : Keep h0 hz27 [] := K_26.ext Ez27
  have V_bz27 : Arf Z hz27 bz27 kz27 .int (1 : Int32) (fun _ => (.int (0 : Int32))) := own_new Az27 (by decide)
  refine OGo.st st27 ?_
  show OGo p.tables e below _ (T27.setTop (mkF m 45 #[.val (.int p1), .val (.int p2), .val (.int p3), .val (.ref bz1), .val (.ref bz8), .val (.int (0 : Int32)), .val (.int sl21), .unset, .unset, .unset, .unset, .unset, .unset, .unset, .unset, .unset, .unset, .unset, .unset, .unset] [(.ref bz27)]))
  refine OGo.st (fun _ k_ => XS.astore X27.here hx rfl (hb hby at_45) rfl rfl (l' := #[.val (.int p1), .val (.int p2), .val (.int p3), .val (.ref bz1), .val (.ref bz8), .val (.int (0 : Int32)), .val (.int sl21), .val (.ref bz27), .unset, .unset, .unset, .unset, .unset, .unset, .unset, .unset, .unset, .unset, .unset, .unset]) rfl k_) ?_
  show OGo p.tables e below _ (T27.setTop (mkF m 47 #[.val (.int p1), .val (.int p2), .val (.int p3), .val (.ref bz1), .val (.ref bz8), .val (.int (0 : Int32)), .val (.int sl21), .val (.ref bz27), .unset, .unset, .unset, .unset, .unset, .unset, .unset, .unset, .unset, .unset, .unset, .unset] []))
  refine OGo.st (fun _ k_ => XS.iconst X27.here hx rfl (hb hby at_47) k_) ?_
  show OGo p.tables e below _ (T27.setTop (mkF m 48 #[.val (.int p1), .val (.int p2), .val (.int p3), .val (.ref bz1), .val (.ref bz8), .val (.int (0 : Int32)), .val (.int sl21), .val (.ref bz27), .unset, .unset, .unset, .unset, .unset, .unset, .unset, .unset, .unset, .unset, .unset, .unset] [(.int (1 : Int32))]))
  obtain ⟨T40, hz40, kz40, X40, ez40, Ez40, Az40, Q40, st40⟩ := newPE X27 hx hZ (hw _ (List.mem_of_getElem? (i := 10) rfl)) ez27 (g := (mkF m 48 #[.val (.int p1), .val (.int p2), .val (.int p3), .val (.ref bz1), .val (.ref bz8), .val (.int (0 : Int32)), .val (.int sl21), .val (.ref bz27), .unset, .unset, .unset, .unset, .unset, .unset, .unset, .unset, .unset, .unset, .unset, .unset] [(.int (1 : Int32))])) rfl (hb hby at_48) rfl (by decide) (cap := 1) (by decide) (by decide) (by decide) (by decide) (ad := "[I") (by rfl)
  obtain ⟨bz40, g40⟩ : ∃ z, z = hz27.size := ⟨_, rfl⟩
  rw [← g40] at Az40 Q40 st40
  have lt_bz1_bz40 : @LT.lt Nat instLTNat bz1 bz40 := Nat.lt_of_lt_of_le Af_28.lt (Nat.le_of_eq g40.symm)
  have lt_bz8_bz40 : @LT.lt Nat instLTNat bz8 bz40 := Nat.lt_of_lt_of_le Ex_29.lt (Nat.le_of_eq g40.symm)
  have lt_av11_bz40 : @LT.lt Nat instLTNat av11 bz40 := Nat.lt_of_lt_of_le Af_30.lt (Nat.le_of_eq g40.symm)
  have lt_ar11_bz40 : @LT.lt Nat instLTNat ar11 bz40 := Nat.lt_of_lt_of_le Af_31.lt (Nat.le_of_eq g40.symm)
  have lt_bz27_bz40 : @LT.lt Nat instLTNat bz27 bz40 := Nat.lt_of_lt_of_le Q27.lt (Nat.le_of_eq g40.symm)
  have g_bz40 : n0 ≤ bz40 := Nat.le_trans (Nat.le_trans Z0 K_39.1) (Nat.le_of_eq g40.symm)
  have sz_bz40 : h0.size ≤ bz40 := Nat.le_trans K_39.1 (Nat.le_of_eq g40.symm)
  have Af_41 := Af_28.ext Ez40
  have Ex_42 := Ex_29.ext Ez40
  have Af_43 := Af_30.ext Ez40
  have Af_44 := Af_31.ext Ez40
  have F_45 := F_32.ext Ez40
  have F_46 := F_33.ext Ez40
  have F_47 := F_34.ext Ez40
  have F_48 := F_35.ext Ez40
  have F_49 := F_36.ext Ez40
  have F_50 := F_37.ext Ez40
  have F_51 := F_38.ext Ez40
  have Ex_52 := Q27.ext Ez40
  have Af_53 := V_bz27.ext Ez40
  have K_54 : Keep h0 hz40 [] := K_39.ext Ez40
  have V_bz40 : Arf Z hz40 bz40 kz40 .int (1 : Int32) (fun _ => (.int (0 : Int32))) := own_new Az40 (by decide)
  refine OGo.st st40 ?_
  show OGo p.tables e below _ (T40.setTop (mkF m 50 #[.val (.int p1), .val (.int p2), .val (.int p3), .val (.ref bz1), .val (.ref bz8), .val (.int (0 : Int32)), .val (.int sl21), .val (.ref bz27), .unset, .unset, .unset, .unset, .unset, .unset, .unset, .unset, .unset, .unset, .unset, .unset] [(.ref bz40)]))
  refine OGo.st (fun _ k_ => XS.astore X40.here hx rfl (hb hby at_50) rfl rfl (l' := #[.val (.int p1), .val (.int p2), .val (.int p3), .val (.ref bz1), .val (.ref bz8), .val (.int (0 : Int32)), .val (.int sl21), .val (.ref bz27), .val (.ref bz40), .unset, .unset, .unset, .unset, .unset, .unset, .unset, .unset, .unset, .unset, .unset]) rfl k_) ?_
  show OGo p.tables e below _ (T40.setTop (mkF m 52 #[.val (.int p1), .val (.int p2), .val (.int p3), .val (.ref bz1), .val (.ref bz8), .val (.int (0 : Int32)), .val (.int sl21), .val (.ref bz27), .val (.ref bz40), .unset, .unset, .unset, .unset, .unset, .unset, .unset, .unset, .unset, .unset, .unset] []))
  refine OGo.st (fun _ k_ => XS.iconst X40.here hx rfl (hb hby at_52) k_) ?_
  show OGo p.tables e below _ (T40.setTop (mkF m 53 #[.val (.int p1), .val (.int p2), .val (.int p3), .val (.ref bz1), .val (.ref bz8), .val (.int (0 : Int32)), .val (.int sl21), .val (.ref bz27), .val (.ref bz40), .unset, .unset, .unset, .unset, .unset, .unset, .unset, .unset, .unset, .unset, .unset] [(.int (1 : Int32))]))
  obtain ⟨T55, hz55, kz55, X55, ez55, Ez55, Az55, Q55, st55⟩ := newPE X40 hx hZ (hw _ (List.mem_of_getElem? (i := 10) rfl)) ez40 (g := (mkF m 53 #[.val (.int p1), .val (.int p2), .val (.int p3), .val (.ref bz1), .val (.ref bz8), .val (.int (0 : Int32)), .val (.int sl21), .val (.ref bz27), .val (.ref bz40), .unset, .unset, .unset, .unset, .unset, .unset, .unset, .unset, .unset, .unset, .unset] [(.int (1 : Int32))])) rfl (hb hby at_53) rfl (by decide) (cap := 1) (by decide) (by decide) (by decide) (by decide) (ad := "[I") (by rfl)
  obtain ⟨bz55, g55⟩ : ∃ z, z = hz40.size := ⟨_, rfl⟩
  rw [← g55] at Az55 Q55 st55
  have lt_bz1_bz55 : @LT.lt Nat instLTNat bz1 bz55 := Nat.lt_of_lt_of_le Af_41.lt (Nat.le_of_eq g55.symm)
  have lt_bz8_bz55 : @LT.lt Nat instLTNat bz8 bz55 := Nat.lt_of_lt_of_le Ex_42.lt (Nat.le_of_eq g55.symm)
  have lt_av11_bz55 : @LT.lt Nat instLTNat av11 bz55 := Nat.lt_of_lt_of_le Af_43.lt (Nat.le_of_eq g55.symm)
  have lt_ar11_bz55 : @LT.lt Nat instLTNat ar11 bz55 := Nat.lt_of_lt_of_le Af_44.lt (Nat.le_of_eq g55.symm)
  have lt_bz27_bz55 : @LT.lt Nat instLTNat bz27 bz55 := Nat.lt_of_lt_of_le Ex_52.lt (Nat.le_of_eq g55.symm)
  have lt_bz40_bz55 : @LT.lt Nat instLTNat bz40 bz55 := Nat.lt_of_lt_of_le Q40.lt (Nat.le_of_eq g55.symm)
  have g_bz55 : n0 ≤ bz55 := Nat.le_trans (Nat.le_trans Z0 K_54.1) (Nat.le_of_eq g55.symm)
  have sz_bz55 : h0.size ≤ bz55 := Nat.le_trans K_54.1 (Nat.le_of_eq g55.symm)
  have Af_56 := Af_41.ext Ez55
  have Ex_57 := Ex_42.ext Ez55
  have Af_58 := Af_43.ext Ez55
  have Af_59 := Af_44.ext Ez55
  have F_60 := F_45.ext Ez55
  have F_61 := F_46.ext Ez55
  have F_62 := F_47.ext Ez55
  have F_63 := F_48.ext Ez55
  have F_64 := F_49.ext Ez55
  have F_65 := F_50.ext Ez55
  have F_66 := F_51.ext Ez55
  have Ex_67 := Ex_52.ext Ez55
  have Af_68 := Af_53.ext Ez55
  have Ex_69 := Q40.ext Ez55
  have Af_70 := V_bz40.ext Ez55
  have K_71 : Keep h0 hz55 [] := K_54.ext Ez55
  have V_bz55 : Arf Z hz55 bz55 kz55 .int (1 : Int32) (fun _ => (.int (0 : Int32))) := own_new Az55 (by decide)
  refine OGo.st st55 ?_
  show OGo p.tables e below _ (T55.setTop (mkF m 55 #[.val (.int p1), .val (.int p2), .val (.int p3), .val (.ref bz1), .val (.ref bz8), .val (.int (0 : Int32)), .val (.int sl21), .val (.ref bz27), .val (.ref bz40), .unset, .unset, .unset, .unset, .unset, .unset, .unset, .unset, .unset, .unset, .unset] [(.ref bz55)]))
  refine OGo.st (fun _ k_ => XS.astore X55.here hx rfl (hb hby at_55) rfl rfl (l' := #[.val (.int p1), .val (.int p2), .val (.int p3), .val (.ref bz1), .val (.ref bz8), .val (.int (0 : Int32)), .val (.int sl21), .val (.ref bz27), .val (.ref bz40), .val (.ref bz55), .unset, .unset, .unset, .unset, .unset, .unset, .unset, .unset, .unset, .unset]) rfl k_) ?_
  show OGo p.tables e below _ (T55.setTop (mkF m 57 #[.val (.int p1), .val (.int p2), .val (.int p3), .val (.ref bz1), .val (.ref bz8), .val (.int (0 : Int32)), .val (.int sl21), .val (.ref bz27), .val (.ref bz40), .val (.ref bz55), .unset, .unset, .unset, .unset, .unset, .unset, .unset, .unset, .unset, .unset] []))
  refine OGo.st (fun _ k_ => XS.iconst X55.here hx rfl (hb hby at_57) k_) ?_
  show OGo p.tables e below _ (T55.setTop (mkF m 58 #[.val (.int p1), .val (.int p2), .val (.int p3), .val (.ref bz1), .val (.ref bz8), .val (.int (0 : Int32)), .val (.int sl21), .val (.ref bz27), .val (.ref bz40), .val (.ref bz55), .unset, .unset, .unset, .unset, .unset, .unset, .unset, .unset, .unset, .unset] [(.int (1 : Int32))]))
  obtain ⟨T72, hz72, kz72, X72, ez72, Ez72, Az72, Q72, st72⟩ := newPE X55 hx hZ (hw _ (List.mem_of_getElem? (i := 10) rfl)) ez55 (g := (mkF m 58 #[.val (.int p1), .val (.int p2), .val (.int p3), .val (.ref bz1), .val (.ref bz8), .val (.int (0 : Int32)), .val (.int sl21), .val (.ref bz27), .val (.ref bz40), .val (.ref bz55), .unset, .unset, .unset, .unset, .unset, .unset, .unset, .unset, .unset, .unset] [(.int (1 : Int32))])) rfl (hb hby at_58) rfl (by decide) (cap := 1) (by decide) (by decide) (by decide) (by decide) (ad := "[I") (by rfl)
  obtain ⟨bz72, g72⟩ : ∃ z, z = hz55.size := ⟨_, rfl⟩
  rw [← g72] at Az72 Q72 st72
  have lt_bz1_bz72 : @LT.lt Nat instLTNat bz1 bz72 := Nat.lt_of_lt_of_le Af_56.lt (Nat.le_of_eq g72.symm)
  have lt_bz8_bz72 : @LT.lt Nat instLTNat bz8 bz72 := Nat.lt_of_lt_of_le Ex_57.lt (Nat.le_of_eq g72.symm)
  have lt_av11_bz72 : @LT.lt Nat instLTNat av11 bz72 := Nat.lt_of_lt_of_le Af_58.lt (Nat.le_of_eq g72.symm)
  have lt_ar11_bz72 : @LT.lt Nat instLTNat ar11 bz72 := Nat.lt_of_lt_of_le Af_59.lt (Nat.le_of_eq g72.symm)
  have lt_bz27_bz72 : @LT.lt Nat instLTNat bz27 bz72 := Nat.lt_of_lt_of_le Ex_67.lt (Nat.le_of_eq g72.symm)
  have lt_bz40_bz72 : @LT.lt Nat instLTNat bz40 bz72 := Nat.lt_of_lt_of_le Ex_69.lt (Nat.le_of_eq g72.symm)
  have lt_bz55_bz72 : @LT.lt Nat instLTNat bz55 bz72 := Nat.lt_of_lt_of_le Q55.lt (Nat.le_of_eq g72.symm)
  have g_bz72 : n0 ≤ bz72 := Nat.le_trans (Nat.le_trans Z0 K_71.1) (Nat.le_of_eq g72.symm)
  have sz_bz72 : h0.size ≤ bz72 := Nat.le_trans K_71.1 (Nat.le_of_eq g72.symm)
  have Af_73 := Af_56.ext Ez72
  have Ex_74 := Ex_57.ext Ez72
  have Af_75 := Af_58.ext Ez72
  have Af_76 := Af_59.ext Ez72
  have F_77 := F_60.ext Ez72
  have F_78 := F_61.ext Ez72
  have F_79 := F_62.ext Ez72
  have F_80 := F_63.ext Ez72
  have F_81 := F_64.ext Ez72
  have F_82 := F_65.ext Ez72
  have F_83 := F_66.ext Ez72
  have Ex_84 := Ex_67.ext Ez72
  have Af_85 := Af_68.ext Ez72
  have Ex_86 := Ex_69.ext Ez72
  have Af_87 := Af_70.ext Ez72
  have Ex_88 := Q55.ext Ez72
  have Af_89 := V_bz55.ext Ez72
  have K_90 : Keep h0 hz72 [] := K_71.ext Ez72
  have V_bz72 : Arf Z hz72 bz72 kz72 .int (1 : Int32) (fun _ => (.int (0 : Int32))) := own_new Az72 (by decide)
  refine OGo.st st72 ?_
  show OGo p.tables e below _ (T72.setTop (mkF m 60 #[.val (.int p1), .val (.int p2), .val (.int p3), .val (.ref bz1), .val (.ref bz8), .val (.int (0 : Int32)), .val (.int sl21), .val (.ref bz27), .val (.ref bz40), .val (.ref bz55), .unset, .unset, .unset, .unset, .unset, .unset, .unset, .unset, .unset, .unset] [(.ref bz72)]))
  refine OGo.st (fun _ k_ => XS.astore X72.here hx rfl (hb hby at_60) rfl rfl (l' := #[.val (.int p1), .val (.int p2), .val (.int p3), .val (.ref bz1), .val (.ref bz8), .val (.int (0 : Int32)), .val (.int sl21), .val (.ref bz27), .val (.ref bz40), .val (.ref bz55), .val (.ref bz72), .unset, .unset, .unset, .unset, .unset, .unset, .unset, .unset, .unset]) rfl k_) ?_
  show OGo p.tables e below _ (T72.setTop (mkF m 62 #[.val (.int p1), .val (.int p2), .val (.int p3), .val (.ref bz1), .val (.ref bz8), .val (.int (0 : Int32)), .val (.int sl21), .val (.ref bz27), .val (.ref bz40), .val (.ref bz55), .val (.ref bz72), .unset, .unset, .unset, .unset, .unset, .unset, .unset, .unset, .unset] []))
  refine OGo.st (fun _ k_ => XS.iloadN X72.here hx rfl (hb hby at_62) rfl k_) ?_
  show OGo p.tables e below _ (T72.setTop (mkF m 63 #[.val (.int p1), .val (.int p2), .val (.int p3), .val (.ref bz1), .val (.ref bz8), .val (.int (0 : Int32)), .val (.int sl21), .val (.ref bz27), .val (.ref bz40), .val (.ref bz55), .val (.ref bz72), .unset, .unset, .unset, .unset, .unset, .unset, .unset, .unset, .unset] [(.int p3)]))
  refine OGo.st (fun _ k_ => XS.iconst X72.here hx rfl (hb hby at_63) k_) ?_
  show OGo p.tables e below _ (T72.setTop (mkF m 64 #[.val (.int p1), .val (.int p2), .val (.int p3), .val (.ref bz1), .val (.ref bz8), .val (.int (0 : Int32)), .val (.int sl21), .val (.ref bz27), .val (.ref bz40), .val (.ref bz55), .val (.ref bz72), .unset, .unset, .unset, .unset, .unset, .unset, .unset, .unset, .unset] [(.int (3 : Int32)), (.int p3)]))
  refine OGo.st (fun _ k_ => XS.iand X72.here hx rfl (hb hby at_64) rfl k_) ?_
  show OGo p.tables e below _ (T72.setTop (mkF m 65 #[.val (.int p1), .val (.int p2), .val (.int p3), .val (.ref bz1), .val (.ref bz8), .val (.int (0 : Int32)), .val (.int sl21), .val (.ref bz27), .val (.ref bz40), .val (.ref bz55), .val (.ref bz72), .unset, .unset, .unset, .unset, .unset, .unset, .unset, .unset, .unset] [(.int (p3 &&& (3 : Int32)))]))
  refine OGo.st (fun _ k_ => XS.iload X72.here hx rfl (hb hby at_65) rfl k_) ?_
  show OGo p.tables e below _ (T72.setTop (mkF m 67 #[.val (.int p1), .val (.int p2), .val (.int p3), .val (.ref bz1), .val (.ref bz8), .val (.int (0 : Int32)), .val (.int sl21), .val (.ref bz27), .val (.ref bz40), .val (.ref bz55), .val (.ref bz72), .unset, .unset, .unset, .unset, .unset, .unset, .unset, .unset, .unset] [(.int (0 : Int32)), (.int (p3 &&& (3 : Int32)))]))
  refine OGo.st (fun _ k_ => XS.iload X72.here hx rfl (hb hby at_67) rfl k_) ?_
  show OGo p.tables e below _ (T72.setTop (mkF m 69 #[.val (.int p1), .val (.int p2), .val (.int p3), .val (.ref bz1), .val (.ref bz8), .val (.int (0 : Int32)), .val (.int sl21), .val (.ref bz27), .val (.ref bz40), .val (.ref bz55), .val (.ref bz72), .unset, .unset, .unset, .unset, .unset, .unset, .unset, .unset, .unset] [(.int sl21), (.int (0 : Int32)), (.int (p3 &&& (3 : Int32)))]))
  obtain ⟨_, _, ⟨T91, Lz91, kz91, nz91⟩, -, X91, ⟨Lc91, hQ91, lz91, yz91, zz91⟩, st91⟩ := Jvm.LawKit.callS X72 hx (y := (⟨"com/example/nodal_ledger/nodalledger/csv/DistinctFieldsValuePinLaw", "pickSlot", "(III)I"⟩ : MethodName)) hown (mvT hZ (hw _ (List.mem_of_getElem? (i := 50) rfl))) (mvT hZ (hw _ (List.mem_of_getElem? (i := 51) rfl))) (mvT hZ (hw _ (List.mem_of_getElem? (i := 52) rfl))) (mvT hZ (hw _ (List.mem_of_getElem? (i := 53) rfl))) (by decide) (backOf (W := 0) (rm12 l Z a0 hw [] (p3 &&& (3 : Int32)) (0 : Int32) sl21 hz72 n0 (Nat.le_trans Z0 K_90.1) ) hZ (hw _ (List.mem_of_getElem? (i := 53) rfl)) (hw _ (List.mem_of_getElem? (i := 52) rfl)) (by decide) (by decide)) (g := (mkF m 69 #[.val (.int p1), .val (.int p2), .val (.int p3), .val (.ref bz1), .val (.ref bz8), .val (.int (0 : Int32)), .val (.int sl21), .val (.ref bz27), .val (.ref bz40), .val (.ref bz55), .val (.ref bz72), .unset, .unset, .unset, .unset, .unset, .unset, .unset, .unset, .unset] [(.int sl21), (.int (0 : Int32)), (.int (p3 &&& (3 : Int32)))])) rfl (by rw [hml]; rfl) (argsL := [(.int (p3 &&& (3 : Int32))), (.int (0 : Int32)), (.int sl21)]) (rest := []) (lenOf own_pd5 rfl) rfl (by show 2 * 0 + _ ≤ _; exact Nat.le_of_eq rfl) (hb hby at_69) (fun _ _ => ⟨rfl, ez72, (by decide : 13 + 0 ≤ _), (by decide : 4111 + 0 ≤ _)⟩)
  dsimp only [Pt.U, Pt.locs, Pt.cells, Pt.slots] at X91 lz91 yz91 zz91 st91 hQ91
  subst lz91 yz91 zz91
  obtain ⟨rfl, Nq91, ez91⟩ := hQ91
  have N91 := Fr.app N21 Nq91
  refine OGo.st st91 ?_
  show OGo p.tables e below _ (T91.setTop (mkF m 72 #[.val (.int p1), .val (.int p2), .val (.int p3), .val (.ref bz1), .val (.ref bz8), .val (.int (0 : Int32)), .val (.int sl21), .val (.ref bz27), .val (.ref bz40), .val (.ref bz55), .val (.ref bz72), .unset, .unset, .unset, .unset, .unset, .unset, .unset, .unset, .unset] [(.int (own_ps (p3 &&& (3 : Int32)) (0 : Int32) sl21))]))
  obtain ⟨ks, hks⟩ : ∃ z : Int32, z = (own_ps (p3 &&& (3 : Int32)) (0 : Int32) sl21) := ⟨_, rfl⟩
  rw [← hks]
  have hks_ := own_rg hks hsl21
  show OGo p.tables e below _ (T91.setTop (mkF m 72 #[.val (.int p1), .val (.int p2), .val (.int p3), .val (.ref bz1), .val (.ref bz8), .val (.int (0 : Int32)), .val (.int sl21), .val (.ref bz27), .val (.ref bz40), .val (.ref bz55), .val (.ref bz72), .unset, .unset, .unset, .unset, .unset, .unset, .unset, .unset, .unset] [(.int ks)]))
  refine OGo.st (fun _ k_ => XS.istore X91.here hx rfl (hb hby at_72) rfl (l' := #[.val (.int p1), .val (.int p2), .val (.int p3), .val (.ref bz1), .val (.ref bz8), .val (.int (0 : Int32)), .val (.int sl21), .val (.ref bz27), .val (.ref bz40), .val (.ref bz55), .val (.ref bz72), .val (.int ks), .unset, .unset, .unset, .unset, .unset, .unset, .unset, .unset]) rfl k_) ?_
  show OGo p.tables e below _ (T91.setTop (mkF m 74 #[.val (.int p1), .val (.int p2), .val (.int p3), .val (.ref bz1), .val (.ref bz8), .val (.int (0 : Int32)), .val (.int sl21), .val (.ref bz27), .val (.ref bz40), .val (.ref bz55), .val (.ref bz72), .val (.int ks), .unset, .unset, .unset, .unset, .unset, .unset, .unset, .unset] []))
  refine OGo.st (fun _ k_ => XS.iloadN X91.here hx rfl (hb hby at_74) rfl k_) ?_
  show OGo p.tables e below _ (T91.setTop (mkF m 75 #[.val (.int p1), .val (.int p2), .val (.int p3), .val (.ref bz1), .val (.ref bz8), .val (.int (0 : Int32)), .val (.int sl21), .val (.ref bz27), .val (.ref bz40), .val (.ref bz55), .val (.ref bz72), .val (.int ks), .unset, .unset, .unset, .unset, .unset, .unset, .unset, .unset] [(.int p3)]))
  refine OGo.st (fun _ k_ => XS.iconst X91.here hx rfl (hb hby at_75) k_) ?_
  show OGo p.tables e below _ (T91.setTop (mkF m 76 #[.val (.int p1), .val (.int p2), .val (.int p3), .val (.ref bz1), .val (.ref bz8), .val (.int (0 : Int32)), .val (.int sl21), .val (.ref bz27), .val (.ref bz40), .val (.ref bz55), .val (.ref bz72), .val (.int ks), .unset, .unset, .unset, .unset, .unset, .unset, .unset, .unset] [(.int (2 : Int32)), (.int p3)]))
  refine OGo.st (fun _ k_ => XS.iushr X91.here hx rfl (hb hby at_76) rfl k_) ?_
  show OGo p.tables e below _ (T91.setTop (mkF m 77 #[.val (.int p1), .val (.int p2), .val (.int p3), .val (.ref bz1), .val (.ref bz8), .val (.int (0 : Int32)), .val (.int sl21), .val (.ref bz27), .val (.ref bz40), .val (.ref bz55), .val (.ref bz72), .val (.int ks), .unset, .unset, .unset, .unset, .unset, .unset, .unset, .unset] [(.int ((p3.toUInt32 >>> ((2 : Int32) &&& 31).toUInt32).toInt32))]))
  refine OGo.st (fun _ k_ => XS.iconst X91.here hx rfl (hb hby at_77) k_) ?_
  show OGo p.tables e below _ (T91.setTop (mkF m 78 #[.val (.int p1), .val (.int p2), .val (.int p3), .val (.ref bz1), .val (.ref bz8), .val (.int (0 : Int32)), .val (.int sl21), .val (.ref bz27), .val (.ref bz40), .val (.ref bz55), .val (.ref bz72), .val (.int ks), .unset, .unset, .unset, .unset, .unset, .unset, .unset, .unset] [(.int (3 : Int32)), (.int ((p3.toUInt32 >>> ((2 : Int32) &&& 31).toUInt32).toInt32))]))
  refine OGo.st (fun _ k_ => XS.iand X91.here hx rfl (hb hby at_78) rfl k_) ?_
  show OGo p.tables e below _ (T91.setTop (mkF m 79 #[.val (.int p1), .val (.int p2), .val (.int p3), .val (.ref bz1), .val (.ref bz8), .val (.int (0 : Int32)), .val (.int sl21), .val (.ref bz27), .val (.ref bz40), .val (.ref bz55), .val (.ref bz72), .val (.int ks), .unset, .unset, .unset, .unset, .unset, .unset, .unset, .unset] [(.int (((p3.toUInt32 >>> ((2 : Int32) &&& 31).toUInt32).toInt32) &&& (3 : Int32)))]))
  refine OGo.st (fun _ k_ => XS.aload X91.here hx rfl (hb hby at_79) rfl rfl k_) ?_
  show OGo p.tables e below _ (T91.setTop (mkF m 81 #[.val (.int p1), .val (.int p2), .val (.int p3), .val (.ref bz1), .val (.ref bz8), .val (.int (0 : Int32)), .val (.int sl21), .val (.ref bz27), .val (.ref bz40), .val (.ref bz55), .val (.ref bz72), .val (.int ks), .unset, .unset, .unset, .unset, .unset, .unset, .unset, .unset] [(.ref bz27), (.int (((p3.toUInt32 >>> ((2 : Int32) &&& 31).toUInt32).toInt32) &&& (3 : Int32)))]))
  refine OGo.st (fun _ k_ => XS.aload X91.here hx rfl (hb hby at_81) rfl rfl k_) ?_
  show OGo p.tables e below _ (T91.setTop (mkF m 83 #[.val (.int p1), .val (.int p2), .val (.int p3), .val (.ref bz1), .val (.ref bz8), .val (.int (0 : Int32)), .val (.int sl21), .val (.ref bz27), .val (.ref bz40), .val (.ref bz55), .val (.ref bz72), .val (.int ks), .unset, .unset, .unset, .unset, .unset, .unset, .unset, .unset] [(.ref bz40), (.ref bz27), (.int (((p3.toUInt32 >>> ((2 : Int32) &&& 31).toUInt32).toInt32) &&& (3 : Int32)))]))
  obtain ⟨_, _, ⟨T92, Lz92, kz92, nz92⟩, -, X92, ⟨Lc92, hQ92, lz92, yz92, zz92⟩, st92⟩ := Jvm.LawKit.callS X91 hx (y := (⟨"com/example/nodal_ledger/nodalledger/csv/DistinctFieldsValuePinLaw", "pickReading", "(ILjava/lang/Object;Ljava/lang/Object;)Ljava/lang/Object;"⟩ : MethodName)) hown (mvT hZ (hw _ (List.mem_of_getElem? (i := 54) rfl))) (mvT hZ (hw _ (List.mem_of_getElem? (i := 55) rfl))) (mvT hZ (hw _ (List.mem_of_getElem? (i := 52) rfl))) (mvT hZ (hw _ (List.mem_of_getElem? (i := 56) rfl))) (by decide) (backOf (W := 0) (rm13 l Z a0 hw [] (((p3.toUInt32 >>> ((2 : Int32) &&& 31).toUInt32).toInt32) &&& (3 : Int32)) bz27 bz40 hz72 n0 (Nat.le_trans Z0 K_90.1) ) hZ (hw _ (List.mem_of_getElem? (i := 56) rfl)) (hw _ (List.mem_of_getElem? (i := 52) rfl)) (by decide) (by decide)) (g := (mkF m 83 #[.val (.int p1), .val (.int p2), .val (.int p3), .val (.ref bz1), .val (.ref bz8), .val (.int (0 : Int32)), .val (.int sl21), .val (.ref bz27), .val (.ref bz40), .val (.ref bz55), .val (.ref bz72), .val (.int ks), .unset, .unset, .unset, .unset, .unset, .unset, .unset, .unset] [(.ref bz40), (.ref bz27), (.int (((p3.toUInt32 >>> ((2 : Int32) &&& 31).toUInt32).toInt32) &&& (3 : Int32)))])) rfl (by rw [hml]; rfl) (argsL := [(.int (((p3.toUInt32 >>> ((2 : Int32) &&& 31).toUInt32).toInt32) &&& (3 : Int32))), (.ref bz27), (.ref bz40)]) (rest := []) (lenOf own_pd8 rfl) rfl (by show 2 * 0 + _ ≤ _; exact Nat.le_of_eq rfl) (hb hby at_83) (fun _ _ => ⟨rfl, ez91, (by decide : 13 + 0 ≤ _), (by decide : 4111 + 0 ≤ _)⟩)
  dsimp only [Pt.U, Pt.locs, Pt.cells, Pt.slots] at X92 lz92 yz92 zz92 st92 hQ92
  subst lz92 yz92 zz92
  obtain ⟨rfl, Nq92, ez92⟩ := hQ92
  have N92 := Fr.app N91 Nq92
  refine OGo.st st92 ?_
  show OGo p.tables e below _ (T92.setTop (mkF m 86 #[.val (.int p1), .val (.int p2), .val (.int p3), .val (.ref bz1), .val (.ref bz8), .val (.int (0 : Int32)), .val (.int sl21), .val (.ref bz27), .val (.ref bz40), .val (.ref bz55), .val (.ref bz72), .val (.int ks), .unset, .unset, .unset, .unset, .unset, .unset, .unset, .unset] [(own_pr (((p3.toUInt32 >>> ((2 : Int32) &&& 31).toUInt32).toInt32) &&& (3 : Int32)) bz27 bz40)]))
  refine OGo.st (fun _ k_ => XS.astore X92.here hx rfl (hb hby at_86) rfl (own_prR _ _ _) (l' := #[.val (.int p1), .val (.int p2), .val (.int p3), .val (.ref bz1), .val (.ref bz8), .val (.int (0 : Int32)), .val (.int sl21), .val (.ref bz27), .val (.ref bz40), .val (.ref bz55), .val (.ref bz72), .val (.int ks), .val (own_pr (((p3.toUInt32 >>> ((2 : Int32) &&& 31).toUInt32).toInt32) &&& (3 : Int32)) bz27 bz40), .unset, .unset, .unset, .unset, .unset, .unset, .unset]) (XS.store1 rfl (Or.inl rfl) (XT.cat1 (own_prR _ _ _))) k_) ?_
  show OGo p.tables e below _ (T92.setTop (mkF m 88 #[.val (.int p1), .val (.int p2), .val (.int p3), .val (.ref bz1), .val (.ref bz8), .val (.int (0 : Int32)), .val (.int sl21), .val (.ref bz27), .val (.ref bz40), .val (.ref bz55), .val (.ref bz72), .val (.int ks), .val (own_pr (((p3.toUInt32 >>> ((2 : Int32) &&& 31).toUInt32).toInt32) &&& (3 : Int32)) bz27 bz40), .unset, .unset, .unset, .unset, .unset, .unset, .unset] []))
  refine OGo.st (fun _ k_ => XS.iloadN X92.here hx rfl (hb hby at_88) rfl k_) ?_
  show OGo p.tables e below _ (T92.setTop (mkF m 89 #[.val (.int p1), .val (.int p2), .val (.int p3), .val (.ref bz1), .val (.ref bz8), .val (.int (0 : Int32)), .val (.int sl21), .val (.ref bz27), .val (.ref bz40), .val (.ref bz55), .val (.ref bz72), .val (.int ks), .val (own_pr (((p3.toUInt32 >>> ((2 : Int32) &&& 31).toUInt32).toInt32) &&& (3 : Int32)) bz27 bz40), .unset, .unset, .unset, .unset, .unset, .unset, .unset] [(.int p3)]))
  refine OGo.st (fun _ k_ => XS.iconst X92.here hx rfl (hb hby at_89) k_) ?_
  show OGo p.tables e below _ (T92.setTop (mkF m 90 #[.val (.int p1), .val (.int p2), .val (.int p3), .val (.ref bz1), .val (.ref bz8), .val (.int (0 : Int32)), .val (.int sl21), .val (.ref bz27), .val (.ref bz40), .val (.ref bz55), .val (.ref bz72), .val (.int ks), .val (own_pr (((p3.toUInt32 >>> ((2 : Int32) &&& 31).toUInt32).toInt32) &&& (3 : Int32)) bz27 bz40), .unset, .unset, .unset, .unset, .unset, .unset, .unset] [(.int (4 : Int32)), (.int p3)]))
  refine OGo.st (fun _ k_ => XS.iushr X92.here hx rfl (hb hby at_90) rfl k_) ?_
  show OGo p.tables e below _ (T92.setTop (mkF m 91 #[.val (.int p1), .val (.int p2), .val (.int p3), .val (.ref bz1), .val (.ref bz8), .val (.int (0 : Int32)), .val (.int sl21), .val (.ref bz27), .val (.ref bz40), .val (.ref bz55), .val (.ref bz72), .val (.int ks), .val (own_pr (((p3.toUInt32 >>> ((2 : Int32) &&& 31).toUInt32).toInt32) &&& (3 : Int32)) bz27 bz40), .unset, .unset, .unset, .unset, .unset, .unset, .unset] [(.int ((p3.toUInt32 >>> ((4 : Int32) &&& 31).toUInt32).toInt32))]))
  refine OGo.st (fun _ k_ => XS.iconst X92.here hx rfl (hb hby at_91) k_) ?_
  show OGo p.tables e below _ (T92.setTop (mkF m 92 #[.val (.int p1), .val (.int p2), .val (.int p3), .val (.ref bz1), .val (.ref bz8), .val (.int (0 : Int32)), .val (.int sl21), .val (.ref bz27), .val (.ref bz40), .val (.ref bz55), .val (.ref bz72), .val (.int ks), .val (own_pr (((p3.toUInt32 >>> ((2 : Int32) &&& 31).toUInt32).toInt32) &&& (3 : Int32)) bz27 bz40), .unset, .unset, .unset, .unset, .unset, .unset, .unset] [(.int (3 : Int32)), (.int ((p3.toUInt32 >>> ((4 : Int32) &&& 31).toUInt32).toInt32))]))
  refine OGo.st (fun _ k_ => XS.iand X92.here hx rfl (hb hby at_92) rfl k_) ?_
  show OGo p.tables e below _ (T92.setTop (mkF m 93 #[.val (.int p1), .val (.int p2), .val (.int p3), .val (.ref bz1), .val (.ref bz8), .val (.int (0 : Int32)), .val (.int sl21), .val (.ref bz27), .val (.ref bz40), .val (.ref bz55), .val (.ref bz72), .val (.int ks), .val (own_pr (((p3.toUInt32 >>> ((2 : Int32) &&& 31).toUInt32).toInt32) &&& (3 : Int32)) bz27 bz40), .unset, .unset, .unset, .unset, .unset, .unset, .unset] [(.int (((p3.toUInt32 >>> ((4 : Int32) &&& 31).toUInt32).toInt32) &&& (3 : Int32)))]))
  refine OGo.st (fun _ k_ => XS.iload X92.here hx rfl (hb hby at_93) rfl k_) ?_
  show OGo p.tables e below _ (T92.setTop (mkF m 95 #[.val (.int p1), .val (.int p2), .val (.int p3), .val (.ref bz1), .val (.ref bz8), .val (.int (0 : Int32)), .val (.int sl21), .val (.ref bz27), .val (.ref bz40), .val (.ref bz55), .val (.ref bz72), .val (.int ks), .val (own_pr (((p3.toUInt32 >>> ((2 : Int32) &&& 31).toUInt32).toInt32) &&& (3 : Int32)) bz27 bz40), .unset, .unset, .unset, .unset, .unset, .unset, .unset] [(.int (0 : Int32)), (.int (((p3.toUInt32 >>> ((4 : Int32) &&& 31).toUInt32).toInt32) &&& (3 : Int32)))]))
  refine OGo.st (fun _ k_ => XS.iload X92.here hx rfl (hb hby at_95) rfl k_) ?_
  show OGo p.tables e below _ (T92.setTop (mkF m 97 #[.val (.int p1), .val (.int p2), .val (.int p3), .val (.ref bz1), .val (.ref bz8), .val (.int (0 : Int32)), .val (.int sl21), .val (.ref bz27), .val (.ref bz40), .val (.ref bz55), .val (.ref bz72), .val (.int ks), .val (own_pr (((p3.toUInt32 >>> ((2 : Int32) &&& 31).toUInt32).toInt32) &&& (3 : Int32)) bz27 bz40), .unset, .unset, .unset, .unset, .unset, .unset, .unset] [(.int sl21), (.int (0 : Int32)), (.int (((p3.toUInt32 >>> ((4 : Int32) &&& 31).toUInt32).toInt32) &&& (3 : Int32)))]))
  obtain ⟨_, _, ⟨T93, Lz93, kz93, nz93⟩, -, X93, ⟨Lc93, hQ93, lz93, yz93, zz93⟩, st93⟩ := Jvm.LawKit.callS X92 hx (y := (⟨"com/example/nodal_ledger/nodalledger/csv/DistinctFieldsValuePinLaw", "pickSlot", "(III)I"⟩ : MethodName)) hown (mvT hZ (hw _ (List.mem_of_getElem? (i := 50) rfl))) (mvT hZ (hw _ (List.mem_of_getElem? (i := 51) rfl))) (mvT hZ (hw _ (List.mem_of_getElem? (i := 52) rfl))) (mvT hZ (hw _ (List.mem_of_getElem? (i := 53) rfl))) (by decide) (backOf (W := 0) (rm12 l Z a0 hw [] (((p3.toUInt32 >>> ((4 : Int32) &&& 31).toUInt32).toInt32) &&& (3 : Int32)) (0 : Int32) sl21 hz72 n0 (Nat.le_trans Z0 K_90.1) ) hZ (hw _ (List.mem_of_getElem? (i := 53) rfl)) (hw _ (List.mem_of_getElem? (i := 52) rfl)) (by decide) (by decide)) (g := (mkF m 97 #[.val (.int p1), .val (.int p2), .val (.int p3), .val (.ref bz1), .val (.ref bz8), .val (.int (0 : Int32)), .val (.int sl21), .val (.ref bz27), .val (.ref bz40), .val (.ref bz55), .val (.ref bz72), .val (.int ks), .val (own_pr (((p3.toUInt32 >>> ((2 : Int32) &&& 31).toUInt32).toInt32) &&& (3 : Int32)) bz27 bz40), .unset, .unset, .unset, .unset, .unset, .unset, .unset] [(.int sl21), (.int (0 : Int32)), (.int (((p3.toUInt32 >>> ((4 : Int32) &&& 31).toUInt32).toInt32) &&& (3 : Int32)))])) rfl (by rw [hml]; rfl) (argsL := [(.int (((p3.toUInt32 >>> ((4 : Int32) &&& 31).toUInt32).toInt32) &&& (3 : Int32))), (.int (0 : Int32)), (.int sl21)]) (rest := []) (lenOf own_pd5 rfl) rfl (by show 2 * 0 + _ ≤ _; exact Nat.le_of_eq rfl) (hb hby at_97) (fun _ _ => ⟨rfl, ez92, (by decide : 13 + 0 ≤ _), (by decide : 4111 + 0 ≤ _)⟩)
  dsimp only [Pt.U, Pt.locs, Pt.cells, Pt.slots] at X93 lz93 yz93 zz93 st93 hQ93
  subst lz93 yz93 zz93
  obtain ⟨rfl, Nq93, ez93⟩ := hQ93
  have N93 := Fr.app N92 Nq93
  refine OGo.st st93 ?_
  show OGo p.tables e below _ (T93.setTop (mkF m 100 #[.val (.int p1), .val (.int p2), .val (.int p3), .val (.ref bz1), .val (.ref bz8), .val (.int (0 : Int32)), .val (.int sl21), .val (.ref bz27), .val (.ref bz40), .val (.ref bz55), .val (.ref bz72), .val (.int ks), .val (own_pr (((p3.toUInt32 >>> ((2 : Int32) &&& 31).toUInt32).toInt32) &&& (3 : Int32)) bz27 bz40), .unset, .unset, .unset, .unset, .unset, .unset, .unset] [(.int (own_ps (((p3.toUInt32 >>> ((4 : Int32) &&& 31).toUInt32).toInt32) &&& (3 : Int32)) (0 : Int32) sl21))]))
  obtain ⟨ks2, hks2⟩ : ∃ z : Int32, z = (own_ps (((p3.toUInt32 >>> ((4 : Int32) &&& 31).toUInt32).toInt32) &&& (3 : Int32)) (0 : Int32) sl21) := ⟨_, rfl⟩
  rw [← hks2]
  have hks2_ := own_rg hks2 hsl21
  show OGo p.tables e below _ (T93.setTop (mkF m 100 #[.val (.int p1), .val (.int p2), .val (.int p3), .val (.ref bz1), .val (.ref bz8), .val (.int (0 : Int32)), .val (.int sl21), .val (.ref bz27), .val (.ref bz40), .val (.ref bz55), .val (.ref bz72), .val (.int ks), .val (own_pr (((p3.toUInt32 >>> ((2 : Int32) &&& 31).toUInt32).toInt32) &&& (3 : Int32)) bz27 bz40), .unset, .unset, .unset, .unset, .unset, .unset, .unset] [(.int ks2)]))
  refine OGo.st (fun _ k_ => XS.istore X93.here hx rfl (hb hby at_100) rfl (l' := #[.val (.int p1), .val (.int p2), .val (.int p3), .val (.ref bz1), .val (.ref bz8), .val (.int (0 : Int32)), .val (.int sl21), .val (.ref bz27), .val (.ref bz40), .val (.ref bz55), .val (.ref bz72), .val (.int ks), .val (own_pr (((p3.toUInt32 >>> ((2 : Int32) &&& 31).toUInt32).toInt32) &&& (3 : Int32)) bz27 bz40), .val (.int ks2), .unset, .unset, .unset, .unset, .unset, .unset]) rfl k_) ?_
  show OGo p.tables e below _ (T93.setTop (mkF m 102 #[.val (.int p1), .val (.int p2), .val (.int p3), .val (.ref bz1), .val (.ref bz8), .val (.int (0 : Int32)), .val (.int sl21), .val (.ref bz27), .val (.ref bz40), .val (.ref bz55), .val (.ref bz72), .val (.int ks), .val (own_pr (((p3.toUInt32 >>> ((2 : Int32) &&& 31).toUInt32).toInt32) &&& (3 : Int32)) bz27 bz40), .val (.int ks2), .unset, .unset, .unset, .unset, .unset, .unset] []))
  refine OGo.st (fun _ k_ => XS.iloadN X93.here hx rfl (hb hby at_102) rfl k_) ?_
  show OGo p.tables e below _ (T93.setTop (mkF m 103 #[.val (.int p1), .val (.int p2), .val (.int p3), .val (.ref bz1), .val (.ref bz8), .val (.int (0 : Int32)), .val (.int sl21), .val (.ref bz27), .val (.ref bz40), .val (.ref bz55), .val (.ref bz72), .val (.int ks), .val (own_pr (((p3.toUInt32 >>> ((2 : Int32) &&& 31).toUInt32).toInt32) &&& (3 : Int32)) bz27 bz40), .val (.int ks2), .unset, .unset, .unset, .unset, .unset, .unset] [(.int p3)]))
  refine OGo.st (fun _ k_ => XS.bipush X93.here hx rfl (hb hby at_103) k_) ?_
  show OGo p.tables e below _ (T93.setTop (mkF m 105 #[.val (.int p1), .val (.int p2), .val (.int p3), .val (.ref bz1), .val (.ref bz8), .val (.int (0 : Int32)), .val (.int sl21), .val (.ref bz27), .val (.ref bz40), .val (.ref bz55), .val (.ref bz72), .val (.int ks), .val (own_pr (((p3.toUInt32 >>> ((2 : Int32) &&& 31).toUInt32).toInt32) &&& (3 : Int32)) bz27 bz40), .val (.int ks2), .unset, .unset, .unset, .unset, .unset, .unset] [(.int (6 : Int32)), (.int p3)]))
  refine OGo.st (fun _ k_ => XS.iushr X93.here hx rfl (hb hby at_105) rfl k_) ?_
  show OGo p.tables e below _ (T93.setTop (mkF m 106 #[.val (.int p1), .val (.int p2), .val (.int p3), .val (.ref bz1), .val (.ref bz8), .val (.int (0 : Int32)), .val (.int sl21), .val (.ref bz27), .val (.ref bz40), .val (.ref bz55), .val (.ref bz72), .val (.int ks), .val (own_pr (((p3.toUInt32 >>> ((2 : Int32) &&& 31).toUInt32).toInt32) &&& (3 : Int32)) bz27 bz40), .val (.int ks2), .unset, .unset, .unset, .unset, .unset, .unset] [(.int ((p3.toUInt32 >>> ((6 : Int32) &&& 31).toUInt32).toInt32))]))
  refine OGo.st (fun _ k_ => XS.iconst X93.here hx rfl (hb hby at_106) k_) ?_
  show OGo p.tables e below _ (T93.setTop (mkF m 107 #[.val (.int p1), .val (.int p2), .val (.int p3), .val (.ref bz1), .val (.ref bz8), .val (.int (0 : Int32)), .val (.int sl21), .val (.ref bz27), .val (.ref bz40), .val (.ref bz55), .val (.ref bz72), .val (.int ks), .val (own_pr (((p3.toUInt32 >>> ((2 : Int32) &&& 31).toUInt32).toInt32) &&& (3 : Int32)) bz27 bz40), .val (.int ks2), .unset, .unset, .unset, .unset, .unset, .unset] [(.int (3 : Int32)), (.int ((p3.toUInt32 >>> ((6 : Int32) &&& 31).toUInt32).toInt32))]))
  refine OGo.st (fun _ k_ => XS.iand X93.here hx rfl (hb hby at_107) rfl k_) ?_
  show OGo p.tables e below _ (T93.setTop (mkF m 108 #[.val (.int p1), .val (.int p2), .val (.int p3), .val (.ref bz1), .val (.ref bz8), .val (.int (0 : Int32)), .val (.int sl21), .val (.ref bz27), .val (.ref bz40), .val (.ref bz55), .val (.ref bz72), .val (.int ks), .val (own_pr (((p3.toUInt32 >>> ((2 : Int32) &&& 31).toUInt32).toInt32) &&& (3 : Int32)) bz27 bz40), .val (.int ks2), .unset, .unset, .unset, .unset, .unset, .unset] [(.int (((p3.toUInt32 >>> ((6 : Int32) &&& 31).toUInt32).toInt32) &&& (3 : Int32)))]))
  refine OGo.st (fun _ k_ => XS.aload X93.here hx rfl (hb hby at_108) rfl rfl k_) ?_
  show OGo p.tables e below _ (T93.setTop (mkF m 110 #[.val (.int p1), .val (.int p2), .val (.int p3), .val (.ref bz1), .val (.ref bz8), .val (.int (0 : Int32)), .val (.int sl21), .val (.ref bz27), .val (.ref bz40), .val (.ref bz55), .val (.ref bz72), .val (.int ks), .val (own_pr (((p3.toUInt32 >>> ((2 : Int32) &&& 31).toUInt32).toInt32) &&& (3 : Int32)) bz27 bz40), .val (.int ks2), .unset, .unset, .unset, .unset, .unset, .unset] [(.ref bz27), (.int (((p3.toUInt32 >>> ((6 : Int32) &&& 31).toUInt32).toInt32) &&& (3 : Int32)))]))
  refine OGo.st (fun _ k_ => XS.aload X93.here hx rfl (hb hby at_110) rfl rfl k_) ?_
  show OGo p.tables e below _ (T93.setTop (mkF m 112 #[.val (.int p1), .val (.int p2), .val (.int p3), .val (.ref bz1), .val (.ref bz8), .val (.int (0 : Int32)), .val (.int sl21), .val (.ref bz27), .val (.ref bz40), .val (.ref bz55), .val (.ref bz72), .val (.int ks), .val (own_pr (((p3.toUInt32 >>> ((2 : Int32) &&& 31).toUInt32).toInt32) &&& (3 : Int32)) bz27 bz40), .val (.int ks2), .unset, .unset, .unset, .unset, .unset, .unset] [(.ref bz40), (.ref bz27), (.int (((p3.toUInt32 >>> ((6 : Int32) &&& 31).toUInt32).toInt32) &&& (3 : Int32)))]))
  obtain ⟨_, _, ⟨T94, Lz94, kz94, nz94⟩, -, X94, ⟨Lc94, hQ94, lz94, yz94, zz94⟩, st94⟩ := Jvm.LawKit.callS X93 hx (y := (⟨"com/example/nodal_ledger/nodalledger/csv/DistinctFieldsValuePinLaw", "pickReading", "(ILjava/lang/Object;Ljava/lang/Object;)Ljava/lang/Object;"⟩ : MethodName)) hown (mvT hZ (hw _ (List.mem_of_getElem? (i := 54) rfl))) (mvT hZ (hw _ (List.mem_of_getElem? (i := 55) rfl))) (mvT hZ (hw _ (List.mem_of_getElem? (i := 52) rfl))) (mvT hZ (hw _ (List.mem_of_getElem? (i := 56) rfl))) (by decide) (backOf (W := 0) (rm13 l Z a0 hw [] (((p3.toUInt32 >>> ((6 : Int32) &&& 31).toUInt32).toInt32) &&& (3 : Int32)) bz27 bz40 hz72 n0 (Nat.le_trans Z0 K_90.1) ) hZ (hw _ (List.mem_of_getElem? (i := 56) rfl)) (hw _ (List.mem_of_getElem? (i := 52) rfl)) (by decide) (by decide)) (g := (mkF m 112 #[.val (.int p1), .val (.int p2), .val (.int p3), .val (.ref bz1), .val (.ref bz8), .val (.int (0 : Int32)), .val (.int sl21), .val (.ref bz27), .val (.ref bz40), .val (.ref bz55), .val (.ref bz72), .val (.int ks), .val (own_pr (((p3.toUInt32 >>> ((2 : Int32) &&& 31).toUInt32).toInt32) &&& (3 : Int32)) bz27 bz40), .val (.int ks2), .unset, .unset, .unset, .unset, .unset, .unset] [(.ref bz40), (.ref bz27), (.int (((p3.toUInt32 >>> ((6 : Int32) &&& 31).toUInt32).toInt32) &&& (3 : Int32)))])) rfl (by rw [hml]; rfl) (argsL := [(.int (((p3.toUInt32 >>> ((6 : Int32) &&& 31).toUInt32).toInt32) &&& (3 : Int32))), (.ref bz27), (.ref bz40)]) (rest := []) (lenOf own_pd8 rfl) rfl (by show 2 * 0 + _ ≤ _; exact Nat.le_of_eq rfl) (hb hby at_112) (fun _ _ => ⟨rfl, ez93, (by decide : 13 + 0 ≤ _), (by decide : 4111 + 0 ≤ _)⟩)
  dsimp only [Pt.U, Pt.locs, Pt.cells, Pt.slots] at X94 lz94 yz94 zz94 st94 hQ94
  subst lz94 yz94 zz94
  obtain ⟨rfl, Nq94, ez94⟩ := hQ94
  have N94 := Fr.app N93 Nq94
  refine OGo.st st94 ?_
  show OGo p.tables e below _ (T94.setTop (mkF m 115 #[.val (.int p1), .val (.int p2), .val (.int p3), .val (.ref bz1), .val (.ref bz8), .val (.int (0 : Int32)), .val (.int sl21), .val (.ref bz27), .val (.ref bz40), .val (.ref bz55), .val (.ref bz72), .val (.int ks), .val (own_pr (((p3.toUInt32 >>> ((2 : Int32) &&& 31).toUInt32).toInt32) &&& (3 : Int32)) bz27 bz40), .val (.int ks2), .unset, .unset, .unset, .unset, .unset, .unset] [(own_pr (((p3.toUInt32 >>> ((6 : Int32) &&& 31).toUInt32).toInt32) &&& (3 : Int32)) bz27 bz40)]))
  refine OGo.st (fun _ k_ => XS.astore X94.here hx rfl (hb hby at_115) rfl (own_prR _ _ _) (l' := #[.val (.int p1), .val (.int p2), .val (.int p3), .val (.ref bz1), .val (.ref bz8), .val (.int (0 : Int32)), .val (.int sl21), .val (.ref bz27), .val (.ref bz40), .val (.ref bz55), .val (.ref bz72), .val (.int ks), .val (own_pr (((p3.toUInt32 >>> ((2 : Int32) &&& 31).toUInt32).toInt32) &&& (3 : Int32)) bz27 bz40), .val (.int ks2), .val (own_pr (((p3.toUInt32 >>> ((6 : Int32) &&& 31).toUInt32).toInt32) &&& (3 : Int32)) bz27 bz40), .unset, .unset, .unset, .unset, .unset]) (XS.store1 rfl (Or.inl rfl) (XT.cat1 (own_prR _ _ _))) k_) ?_
  show OGo p.tables e below _ (T94.setTop (mkF m 117 #[.val (.int p1), .val (.int p2), .val (.int p3), .val (.ref bz1), .val (.ref bz8), .val (.int (0 : Int32)), .val (.int sl21), .val (.ref bz27), .val (.ref bz40), .val (.ref bz55), .val (.ref bz72), .val (.int ks), .val (own_pr (((p3.toUInt32 >>> ((2 : Int32) &&& 31).toUInt32).toInt32) &&& (3 : Int32)) bz27 bz40), .val (.int ks2), .val (own_pr (((p3.toUInt32 >>> ((6 : Int32) &&& 31).toUInt32).toInt32) &&& (3 : Int32)) bz27 bz40), .unset, .unset, .unset, .unset, .unset] []))
  refine OGo.st (fun _ k_ => XS.iloadN X94.here hx rfl (hb hby at_117) rfl k_) ?_
  show OGo p.tables e below _ (T94.setTop (mkF m 118 #[.val (.int p1), .val (.int p2), .val (.int p3), .val (.ref bz1), .val (.ref bz8), .val (.int (0 : Int32)), .val (.int sl21), .val (.ref bz27), .val (.ref bz40), .val (.ref bz55), .val (.ref bz72), .val (.int ks), .val (own_pr (((p3.toUInt32 >>> ((2 : Int32) &&& 31).toUInt32).toInt32) &&& (3 : Int32)) bz27 bz40), .val (.int ks2), .val (own_pr (((p3.toUInt32 >>> ((6 : Int32) &&& 31).toUInt32).toInt32) &&& (3 : Int32)) bz27 bz40), .unset, .unset, .unset, .unset, .unset] [(.int p3)]))
  refine OGo.st (fun _ k_ => XS.bipush X94.here hx rfl (hb hby at_118) k_) ?_
  show OGo p.tables e below _ (T94.setTop (mkF m 120 #[.val (.int p1), .val (.int p2), .val (.int p3), .val (.ref bz1), .val (.ref bz8), .val (.int (0 : Int32)), .val (.int sl21), .val (.ref bz27), .val (.ref bz40), .val (.ref bz55), .val (.ref bz72), .val (.int ks), .val (own_pr (((p3.toUInt32 >>> ((2 : Int32) &&& 31).toUInt32).toInt32) &&& (3 : Int32)) bz27 bz40), .val (.int ks2), .val (own_pr (((p3.toUInt32 >>> ((6 : Int32) &&& 31).toUInt32).toInt32) &&& (3 : Int32)) bz27 bz40), .unset, .unset, .unset, .unset, .unset] [(.int (8 : Int32)), (.int p3)]))
  refine OGo.st (fun _ k_ => XS.iushr X94.here hx rfl (hb hby at_120) rfl k_) ?_
  show OGo p.tables e below _ (T94.setTop (mkF m 121 #[.val (.int p1), .val (.int p2), .val (.int p3), .val (.ref bz1), .val (.ref bz8), .val (.int (0 : Int32)), .val (.int sl21), .val (.ref bz27), .val (.ref bz40), .val (.ref bz55), .val (.ref bz72), .val (.int ks), .val (own_pr (((p3.toUInt32 >>> ((2 : Int32) &&& 31).toUInt32).toInt32) &&& (3 : Int32)) bz27 bz40), .val (.int ks2), .val (own_pr (((p3.toUInt32 >>> ((6 : Int32) &&& 31).toUInt32).toInt32) &&& (3 : Int32)) bz27 bz40), .unset, .unset, .unset, .unset, .unset] [(.int ((p3.toUInt32 >>> ((8 : Int32) &&& 31).toUInt32).toInt32))]))
  refine OGo.st (fun _ k_ => XS.iconst X94.here hx rfl (hb hby at_121) k_) ?_
  show OGo p.tables e below _ (T94.setTop (mkF m 122 #[.val (.int p1), .val (.int p2), .val (.int p3), .val (.ref bz1), .val (.ref bz8), .val (.int (0 : Int32)), .val (.int sl21), .val (.ref bz27), .val (.ref bz40), .val (.ref bz55), .val (.ref bz72), .val (.int ks), .val (own_pr (((p3.toUInt32 >>> ((2 : Int32) &&& 31).toUInt32).toInt32) &&& (3 : Int32)) bz27 bz40), .val (.int ks2), .val (own_pr (((p3.toUInt32 >>> ((6 : Int32) &&& 31).toUInt32).toInt32) &&& (3 : Int32)) bz27 bz40), .unset, .unset, .unset, .unset, .unset] [(.int (3 : Int32)), (.int ((p3.toUInt32 >>> ((8 : Int32) &&& 31).toUInt32).toInt32))]))
  refine OGo.st (fun _ k_ => XS.iand X94.here hx rfl (hb hby at_122) rfl k_) ?_
  show OGo p.tables e below _ (T94.setTop (mkF m 123 #[.val (.int p1), .val (.int p2), .val (.int p3), .val (.ref bz1), .val (.ref bz8), .val (.int (0 : Int32)), .val (.int sl21), .val (.ref bz27), .val (.ref bz40), .val (.ref bz55), .val (.ref bz72), .val (.int ks), .val (own_pr (((p3.toUInt32 >>> ((2 : Int32) &&& 31).toUInt32).toInt32) &&& (3 : Int32)) bz27 bz40), .val (.int ks2), .val (own_pr (((p3.toUInt32 >>> ((6 : Int32) &&& 31).toUInt32).toInt32) &&& (3 : Int32)) bz27 bz40), .unset, .unset, .unset, .unset, .unset] [(.int (((p3.toUInt32 >>> ((8 : Int32) &&& 31).toUInt32).toInt32) &&& (3 : Int32)))]))
  refine OGo.st (fun _ k_ => XS.iload X94.here hx rfl (hb hby at_123) rfl k_) ?_
  show OGo p.tables e below _ (T94.setTop (mkF m 125 #[.val (.int p1), .val (.int p2), .val (.int p3), .val (.ref bz1), .val (.ref bz8), .val (.int (0 : Int32)), .val (.int sl21), .val (.ref bz27), .val (.ref bz40), .val (.ref bz55), .val (.ref bz72), .val (.int ks), .val (own_pr (((p3.toUInt32 >>> ((2 : Int32) &&& 31).toUInt32).toInt32) &&& (3 : Int32)) bz27 bz40), .val (.int ks2), .val (own_pr (((p3.toUInt32 >>> ((6 : Int32) &&& 31).toUInt32).toInt32) &&& (3 : Int32)) bz27 bz40), .unset, .unset, .unset, .unset, .unset] [(.int (0 : Int32)), (.int (((p3.toUInt32 >>> ((8 : Int32) &&& 31).toUInt32).toInt32) &&& (3 : Int32)))]))
  refine OGo.st (fun _ k_ => XS.iload X94.here hx rfl (hb hby at_125) rfl k_) ?_
  show OGo p.tables e below _ (T94.setTop (mkF m 127 #[.val (.int p1), .val (.int p2), .val (.int p3), .val (.ref bz1), .val (.ref bz8), .val (.int (0 : Int32)), .val (.int sl21), .val (.ref bz27), .val (.ref bz40), .val (.ref bz55), .val (.ref bz72), .val (.int ks), .val (own_pr (((p3.toUInt32 >>> ((2 : Int32) &&& 31).toUInt32).toInt32) &&& (3 : Int32)) bz27 bz40), .val (.int ks2), .val (own_pr (((p3.toUInt32 >>> ((6 : Int32) &&& 31).toUInt32).toInt32) &&& (3 : Int32)) bz27 bz40), .unset, .unset, .unset, .unset, .unset] [(.int sl21), (.int (0 : Int32)), (.int (((p3.toUInt32 >>> ((8 : Int32) &&& 31).toUInt32).toInt32) &&& (3 : Int32)))]))
  obtain ⟨_, _, ⟨T95, Lz95, kz95, nz95⟩, -, X95, ⟨Lc95, hQ95, lz95, yz95, zz95⟩, st95⟩ := Jvm.LawKit.callS X94 hx (y := (⟨"com/example/nodal_ledger/nodalledger/csv/DistinctFieldsValuePinLaw", "pickSlot", "(III)I"⟩ : MethodName)) hown (mvT hZ (hw _ (List.mem_of_getElem? (i := 50) rfl))) (mvT hZ (hw _ (List.mem_of_getElem? (i := 51) rfl))) (mvT hZ (hw _ (List.mem_of_getElem? (i := 52) rfl))) (mvT hZ (hw _ (List.mem_of_getElem? (i := 53) rfl))) (by decide) (backOf (W := 0) (rm12 l Z a0 hw [] (((p3.toUInt32 >>> ((8 : Int32) &&& 31).toUInt32).toInt32) &&& (3 : Int32)) (0 : Int32) sl21 hz72 n0 (Nat.le_trans Z0 K_90.1) ) hZ (hw _ (List.mem_of_getElem? (i := 53) rfl)) (hw _ (List.mem_of_getElem? (i := 52) rfl)) (by decide) (by decide)) (g := (mkF m 127 #[.val (.int p1), .val (.int p2), .val (.int p3), .val (.ref bz1), .val (.ref bz8), .val (.int (0 : Int32)), .val (.int sl21), .val (.ref bz27), .val (.ref bz40), .val (.ref bz55), .val (.ref bz72), .val (.int ks), .val (own_pr (((p3.toUInt32 >>> ((2 : Int32) &&& 31).toUInt32).toInt32) &&& (3 : Int32)) bz27 bz40), .val (.int ks2), .val (own_pr (((p3.toUInt32 >>> ((6 : Int32) &&& 31).toUInt32).toInt32) &&& (3 : Int32)) bz27 bz40), .unset, .unset, .unset, .unset, .unset] [(.int sl21), (.int (0 : Int32)), (.int (((p3.toUInt32 >>> ((8 : Int32) &&& 31).toUInt32).toInt32) &&& (3 : Int32)))])) rfl (by rw [hml]; rfl) (argsL := [(.int (((p3.toUInt32 >>> ((8 : Int32) &&& 31).toUInt32).toInt32) &&& (3 : Int32))), (.int (0 : Int32)), (.int sl21)]) (rest := []) (lenOf own_pd5 rfl) rfl (by show 2 * 0 + _ ≤ _; exact Nat.le_of_eq rfl) (hb hby at_127) (fun _ _ => ⟨rfl, ez94, (by decide : 13 + 0 ≤ _), (by decide : 4111 + 0 ≤ _)⟩)
  dsimp only [Pt.U, Pt.locs, Pt.cells, Pt.slots] at X95 lz95 yz95 zz95 st95 hQ95
  subst lz95 yz95 zz95
  obtain ⟨rfl, Nq95, ez95⟩ := hQ95
  have N95 := Fr.app N94 Nq95
  refine OGo.st st95 ?_
  show OGo p.tables e below _ (T95.setTop (mkF m 130 #[.val (.int p1), .val (.int p2), .val (.int p3), .val (.ref bz1), .val (.ref bz8), .val (.int (0 : Int32)), .val (.int sl21), .val (.ref bz27), .val (.ref bz40), .val (.ref bz55), .val (.ref bz72), .val (.int ks), .val (own_pr (((p3.toUInt32 >>> ((2 : Int32) &&& 31).toUInt32).toInt32) &&& (3 : Int32)) bz27 bz40), .val (.int ks2), .val (own_pr (((p3.toUInt32 >>> ((6 : Int32) &&& 31).toUInt32).toInt32) &&& (3 : Int32)) bz27 bz40), .unset, .unset, .unset, .unset, .unset] [(.int (own_ps (((p3.toUInt32 >>> ((8 : Int32) &&& 31).toUInt32).toInt32) &&& (3 : Int32)) (0 : Int32) sl21))]))
  obtain ⟨qs, hqs⟩ : ∃ z : Int32, z = (own_ps (((p3.toUInt32 >>> ((8 : Int32) &&& 31).toUInt32).toInt32) &&& (3 : Int32)) (0 : Int32) sl21) := ⟨_, rfl⟩
  rw [← hqs]
  have hqs_ := own_rg hqs hsl21
  show OGo p.tables e below _ (T95.setTop (mkF m 130 #[.val (.int p1), .val (.int p2), .val (.int p3), .val (.ref bz1), .val (.ref bz8), .val (.int (0 : Int32)), .val (.int sl21), .val (.ref bz27), .val (.ref bz40), .val (.ref bz55), .val (.ref bz72), .val (.int ks), .val (own_pr (((p3.toUInt32 >>> ((2 : Int32) &&& 31).toUInt32).toInt32) &&& (3 : Int32)) bz27 bz40), .val (.int ks2), .val (own_pr (((p3.toUInt32 >>> ((6 : Int32) &&& 31).toUInt32).toInt32) &&& (3 : Int32)) bz27 bz40), .unset, .unset, .unset, .unset, .unset] [(.int qs)]))
  refine OGo.st (fun _ k_ => XS.istore X95.here hx rfl (hb hby at_130) rfl (l' := #[.val (.int p1), .val (.int p2), .val (.int p3), .val (.ref bz1), .val (.ref bz8), .val (.int (0 : Int32)), .val (.int sl21), .val (.ref bz27), .val (.ref bz40), .val (.ref bz55), .val (.ref bz72), .val (.int ks), .val (own_pr (((p3.toUInt32 >>> ((2 : Int32) &&& 31).toUInt32).toInt32) &&& (3 : Int32)) bz27 bz40), .val (.int ks2), .val (own_pr (((p3.toUInt32 >>> ((6 : Int32) &&& 31).toUInt32).toInt32) &&& (3 : Int32)) bz27 bz40), .val (.int qs), .unset, .unset, .unset, .unset]) rfl k_) ?_
  show OGo p.tables e below _ (T95.setTop (mkF m 132 #[.val (.int p1), .val (.int p2), .val (.int p3), .val (.ref bz1), .val (.ref bz8), .val (.int (0 : Int32)), .val (.int sl21), .val (.ref bz27), .val (.ref bz40), .val (.ref bz55), .val (.ref bz72), .val (.int ks), .val (own_pr (((p3.toUInt32 >>> ((2 : Int32) &&& 31).toUInt32).toInt32) &&& (3 : Int32)) bz27 bz40), .val (.int ks2), .val (own_pr (((p3.toUInt32 >>> ((6 : Int32) &&& 31).toUInt32).toInt32) &&& (3 : Int32)) bz27 bz40), .val (.int qs), .unset, .unset, .unset, .unset] []))
  refine OGo.st (fun _ k_ => XS.iloadN X95.here hx rfl (hb hby at_132) rfl k_) ?_
  show OGo p.tables e below _ (T95.setTop (mkF m 133 #[.val (.int p1), .val (.int p2), .val (.int p3), .val (.ref bz1), .val (.ref bz8), .val (.int (0 : Int32)), .val (.int sl21), .val (.ref bz27), .val (.ref bz40), .val (.ref bz55), .val (.ref bz72), .val (.int ks), .val (own_pr (((p3.toUInt32 >>> ((2 : Int32) &&& 31).toUInt32).toInt32) &&& (3 : Int32)) bz27 bz40), .val (.int ks2), .val (own_pr (((p3.toUInt32 >>> ((6 : Int32) &&& 31).toUInt32).toInt32) &&& (3 : Int32)) bz27 bz40), .val (.int qs), .unset, .unset, .unset, .unset] [(.int p3)]))
  refine OGo.st (fun _ k_ => XS.bipush X95.here hx rfl (hb hby at_133) k_) ?_
  show OGo p.tables e below _ (T95.setTop (mkF m 135 #[.val (.int p1), .val (.int p2), .val (.int p3), .val (.ref bz1), .val (.ref bz8), .val (.int (0 : Int32)), .val (.int sl21), .val (.ref bz27), .val (.ref bz40), .val (.ref bz55), .val (.ref bz72), .val (.int ks), .val (own_pr (((p3.toUInt32 >>> ((2 : Int32) &&& 31).toUInt32).toInt32) &&& (3 : Int32)) bz27 bz40), .val (.int ks2), .val (own_pr (((p3.toUInt32 >>> ((6 : Int32) &&& 31).toUInt32).toInt32) &&& (3 : Int32)) bz27 bz40), .val (.int qs), .unset, .unset, .unset, .unset] [(.int (10 : Int32)), (.int p3)]))
  refine OGo.st (fun _ k_ => XS.iushr X95.here hx rfl (hb hby at_135) rfl k_) ?_
  show OGo p.tables e below _ (T95.setTop (mkF m 136 #[.val (.int p1), .val (.int p2), .val (.int p3), .val (.ref bz1), .val (.ref bz8), .val (.int (0 : Int32)), .val (.int sl21), .val (.ref bz27), .val (.ref bz40), .val (.ref bz55), .val (.ref bz72), .val (.int ks), .val (own_pr (((p3.toUInt32 >>> ((2 : Int32) &&& 31).toUInt32).toInt32) &&& (3 : Int32)) bz27 bz40), .val (.int ks2), .val (own_pr (((p3.toUInt32 >>> ((6 : Int32) &&& 31).toUInt32).toInt32) &&& (3 : Int32)) bz27 bz40), .val (.int qs), .unset, .unset, .unset, .unset] [(.int ((p3.toUInt32 >>> ((10 : Int32) &&& 31).toUInt32).toInt32))]))
  refine OGo.st (fun _ k_ => XS.iconst X95.here hx rfl (hb hby at_136) k_) ?_
  show OGo p.tables e below _ (T95.setTop (mkF m 137 #[.val (.int p1), .val (.int p2), .val (.int p3), .val (.ref bz1), .val (.ref bz8), .val (.int (0 : Int32)), .val (.int sl21), .val (.ref bz27), .val (.ref bz40), .val (.ref bz55), .val (.ref bz72), .val (.int ks), .val (own_pr (((p3.toUInt32 >>> ((2 : Int32) &&& 31).toUInt32).toInt32) &&& (3 : Int32)) bz27 bz40), .val (.int ks2), .val (own_pr (((p3.toUInt32 >>> ((6 : Int32) &&& 31).toUInt32).toInt32) &&& (3 : Int32)) bz27 bz40), .val (.int qs), .unset, .unset, .unset, .unset] [(.int (3 : Int32)), (.int ((p3.toUInt32 >>> ((10 : Int32) &&& 31).toUInt32).toInt32))]))
  refine OGo.st (fun _ k_ => XS.iand X95.here hx rfl (hb hby at_137) rfl k_) ?_
  show OGo p.tables e below _ (T95.setTop (mkF m 138 #[.val (.int p1), .val (.int p2), .val (.int p3), .val (.ref bz1), .val (.ref bz8), .val (.int (0 : Int32)), .val (.int sl21), .val (.ref bz27), .val (.ref bz40), .val (.ref bz55), .val (.ref bz72), .val (.int ks), .val (own_pr (((p3.toUInt32 >>> ((2 : Int32) &&& 31).toUInt32).toInt32) &&& (3 : Int32)) bz27 bz40), .val (.int ks2), .val (own_pr (((p3.toUInt32 >>> ((6 : Int32) &&& 31).toUInt32).toInt32) &&& (3 : Int32)) bz27 bz40), .val (.int qs), .unset, .unset, .unset, .unset] [(.int (((p3.toUInt32 >>> ((10 : Int32) &&& 31).toUInt32).toInt32) &&& (3 : Int32)))]))
  refine OGo.st (fun _ k_ => XS.aload X95.here hx rfl (hb hby at_138) rfl rfl k_) ?_
  show OGo p.tables e below _ (T95.setTop (mkF m 140 #[.val (.int p1), .val (.int p2), .val (.int p3), .val (.ref bz1), .val (.ref bz8), .val (.int (0 : Int32)), .val (.int sl21), .val (.ref bz27), .val (.ref bz40), .val (.ref bz55), .val (.ref bz72), .val (.int ks), .val (own_pr (((p3.toUInt32 >>> ((2 : Int32) &&& 31).toUInt32).toInt32) &&& (3 : Int32)) bz27 bz40), .val (.int ks2), .val (own_pr (((p3.toUInt32 >>> ((6 : Int32) &&& 31).toUInt32).toInt32) &&& (3 : Int32)) bz27 bz40), .val (.int qs), .unset, .unset, .unset, .unset] [(.ref bz27), (.int (((p3.toUInt32 >>> ((10 : Int32) &&& 31).toUInt32).toInt32) &&& (3 : Int32)))]))
  refine OGo.st (fun _ k_ => XS.aload X95.here hx rfl (hb hby at_140) rfl rfl k_) ?_
  show OGo p.tables e below _ (T95.setTop (mkF m 142 #[.val (.int p1), .val (.int p2), .val (.int p3), .val (.ref bz1), .val (.ref bz8), .val (.int (0 : Int32)), .val (.int sl21), .val (.ref bz27), .val (.ref bz40), .val (.ref bz55), .val (.ref bz72), .val (.int ks), .val (own_pr (((p3.toUInt32 >>> ((2 : Int32) &&& 31).toUInt32).toInt32) &&& (3 : Int32)) bz27 bz40), .val (.int ks2), .val (own_pr (((p3.toUInt32 >>> ((6 : Int32) &&& 31).toUInt32).toInt32) &&& (3 : Int32)) bz27 bz40), .val (.int qs), .unset, .unset, .unset, .unset] [(.ref bz40), (.ref bz27), (.int (((p3.toUInt32 >>> ((10 : Int32) &&& 31).toUInt32).toInt32) &&& (3 : Int32)))]))
  obtain ⟨_, _, ⟨T96, Lz96, kz96, nz96⟩, -, X96, ⟨Lc96, hQ96, lz96, yz96, zz96⟩, st96⟩ := Jvm.LawKit.callS X95 hx (y := (⟨"com/example/nodal_ledger/nodalledger/csv/DistinctFieldsValuePinLaw", "pickReading", "(ILjava/lang/Object;Ljava/lang/Object;)Ljava/lang/Object;"⟩ : MethodName)) hown (mvT hZ (hw _ (List.mem_of_getElem? (i := 54) rfl))) (mvT hZ (hw _ (List.mem_of_getElem? (i := 55) rfl))) (mvT hZ (hw _ (List.mem_of_getElem? (i := 52) rfl))) (mvT hZ (hw _ (List.mem_of_getElem? (i := 56) rfl))) (by decide) (backOf (W := 0) (rm13 l Z a0 hw [] (((p3.toUInt32 >>> ((10 : Int32) &&& 31).toUInt32).toInt32) &&& (3 : Int32)) bz27 bz40 hz72 n0 (Nat.le_trans Z0 K_90.1) ) hZ (hw _ (List.mem_of_getElem? (i := 56) rfl)) (hw _ (List.mem_of_getElem? (i := 52) rfl)) (by decide) (by decide)) (g := (mkF m 142 #[.val (.int p1), .val (.int p2), .val (.int p3), .val (.ref bz1), .val (.ref bz8), .val (.int (0 : Int32)), .val (.int sl21), .val (.ref bz27), .val (.ref bz40), .val (.ref bz55), .val (.ref bz72), .val (.int ks), .val (own_pr (((p3.toUInt32 >>> ((2 : Int32) &&& 31).toUInt32).toInt32) &&& (3 : Int32)) bz27 bz40), .val (.int ks2), .val (own_pr (((p3.toUInt32 >>> ((6 : Int32) &&& 31).toUInt32).toInt32) &&& (3 : Int32)) bz27 bz40), .val (.int qs), .unset, .unset, .unset, .unset] [(.ref bz40), (.ref bz27), (.int (((p3.toUInt32 >>> ((10 : Int32) &&& 31).toUInt32).toInt32) &&& (3 : Int32)))])) rfl (by rw [hml]; rfl) (argsL := [(.int (((p3.toUInt32 >>> ((10 : Int32) &&& 31).toUInt32).toInt32) &&& (3 : Int32))), (.ref bz27), (.ref bz40)]) (rest := []) (lenOf own_pd8 rfl) rfl (by show 2 * 0 + _ ≤ _; exact Nat.le_of_eq rfl) (hb hby at_142) (fun _ _ => ⟨rfl, ez95, (by decide : 13 + 0 ≤ _), (by decide : 4111 + 0 ≤ _)⟩)
  dsimp only [Pt.U, Pt.locs, Pt.cells, Pt.slots] at X96 lz96 yz96 zz96 st96 hQ96
  subst lz96 yz96 zz96
  obtain ⟨rfl, Nq96, ez96⟩ := hQ96
  have N96 := Fr.app N95 Nq96
  refine OGo.st st96 ?_
  show OGo p.tables e below _ (T96.setTop (mkF m 145 #[.val (.int p1), .val (.int p2), .val (.int p3), .val (.ref bz1), .val (.ref bz8), .val (.int (0 : Int32)), .val (.int sl21), .val (.ref bz27), .val (.ref bz40), .val (.ref bz55), .val (.ref bz72), .val (.int ks), .val (own_pr (((p3.toUInt32 >>> ((2 : Int32) &&& 31).toUInt32).toInt32) &&& (3 : Int32)) bz27 bz40), .val (.int ks2), .val (own_pr (((p3.toUInt32 >>> ((6 : Int32) &&& 31).toUInt32).toInt32) &&& (3 : Int32)) bz27 bz40), .val (.int qs), .unset, .unset, .unset, .unset] [(own_pr (((p3.toUInt32 >>> ((10 : Int32) &&& 31).toUInt32).toInt32) &&& (3 : Int32)) bz27 bz40)]))
  refine OGo.st (fun _ k_ => XS.astore X96.here hx rfl (hb hby at_145) rfl (own_prR _ _ _) (l' := #[.val (.int p1), .val (.int p2), .val (.int p3), .val (.ref bz1), .val (.ref bz8), .val (.int (0 : Int32)), .val (.int sl21), .val (.ref bz27), .val (.ref bz40), .val (.ref bz55), .val (.ref bz72), .val (.int ks), .val (own_pr (((p3.toUInt32 >>> ((2 : Int32) &&& 31).toUInt32).toInt32) &&& (3 : Int32)) bz27 bz40), .val (.int ks2), .val (own_pr (((p3.toUInt32 >>> ((6 : Int32) &&& 31).toUInt32).toInt32) &&& (3 : Int32)) bz27 bz40), .val (.int qs), .val (own_pr (((p3.toUInt32 >>> ((10 : Int32) &&& 31).toUInt32).toInt32) &&& (3 : Int32)) bz27 bz40), .unset, .unset, .unset]) (XS.store1 rfl (Or.inl rfl) (XT.cat1 (own_prR _ _ _))) k_) ?_
  show OGo p.tables e below _ (T96.setTop (mkF m 147 #[.val (.int p1), .val (.int p2), .val (.int p3), .val (.ref bz1), .val (.ref bz8), .val (.int (0 : Int32)), .val (.int sl21), .val (.ref bz27), .val (.ref bz40), .val (.ref bz55), .val (.ref bz72), .val (.int ks), .val (own_pr (((p3.toUInt32 >>> ((2 : Int32) &&& 31).toUInt32).toInt32) &&& (3 : Int32)) bz27 bz40), .val (.int ks2), .val (own_pr (((p3.toUInt32 >>> ((6 : Int32) &&& 31).toUInt32).toInt32) &&& (3 : Int32)) bz27 bz40), .val (.int qs), .val (own_pr (((p3.toUInt32 >>> ((10 : Int32) &&& 31).toUInt32).toInt32) &&& (3 : Int32)) bz27 bz40), .unset, .unset, .unset] []))
  refine OGo.st (fun _ k_ => XS.aload X96.here hx rfl (hb hby at_147) rfl rfl k_) ?_
  show OGo p.tables e below _ (T96.setTop (mkF m 149 #[.val (.int p1), .val (.int p2), .val (.int p3), .val (.ref bz1), .val (.ref bz8), .val (.int (0 : Int32)), .val (.int sl21), .val (.ref bz27), .val (.ref bz40), .val (.ref bz55), .val (.ref bz72), .val (.int ks), .val (own_pr (((p3.toUInt32 >>> ((2 : Int32) &&& 31).toUInt32).toInt32) &&& (3 : Int32)) bz27 bz40), .val (.int ks2), .val (own_pr (((p3.toUInt32 >>> ((6 : Int32) &&& 31).toUInt32).toInt32) &&& (3 : Int32)) bz27 bz40), .val (.int qs), .val (own_pr (((p3.toUInt32 >>> ((10 : Int32) &&& 31).toUInt32).toInt32) &&& (3 : Int32)) bz27 bz40), .unset, .unset, .unset] [(.ref bz8)]))
  refine OGo.st (fun _ k_ => XS.iload X96.here hx rfl (hb hby at_149) rfl k_) ?_
  show OGo p.tables e below _ (T96.setTop (mkF m 151 #[.val (.int p1), .val (.int p2), .val (.int p3), .val (.ref bz1), .val (.ref bz8), .val (.int (0 : Int32)), .val (.int sl21), .val (.ref bz27), .val (.ref bz40), .val (.ref bz55), .val (.ref bz72), .val (.int ks), .val (own_pr (((p3.toUInt32 >>> ((2 : Int32) &&& 31).toUInt32).toInt32) &&& (3 : Int32)) bz27 bz40), .val (.int ks2), .val (own_pr (((p3.toUInt32 >>> ((6 : Int32) &&& 31).toUInt32).toInt32) &&& (3 : Int32)) bz27 bz40), .val (.int qs), .val (own_pr (((p3.toUInt32 >>> ((10 : Int32) &&& 31).toUInt32).toInt32) &&& (3 : Int32)) bz27 bz40), .unset, .unset, .unset] [(.int qs), (.ref bz8)]))
  refine OGo.st (fun _ k_ => XS.aload X96.here hx rfl (hb hby at_151) rfl (own_prR _ _ _) k_) ?_
  show OGo p.tables e below _ (T96.setTop (mkF m 153 #[.val (.int p1), .val (.int p2), .val (.int p3), .val (.ref bz1), .val (.ref bz8), .val (.int (0 : Int32)), .val (.int sl21), .val (.ref bz27), .val (.ref bz40), .val (.ref bz55), .val (.ref bz72), .val (.int ks), .val (own_pr (((p3.toUInt32 >>> ((2 : Int32) &&& 31).toUInt32).toInt32) &&& (3 : Int32)) bz27 bz40), .val (.int ks2), .val (own_pr (((p3.toUInt32 >>> ((6 : Int32) &&& 31).toUInt32).toInt32) &&& (3 : Int32)) bz27 bz40), .val (.int qs), .val (own_pr (((p3.toUInt32 >>> ((10 : Int32) &&& 31).toUInt32).toInt32) &&& (3 : Int32)) bz27 bz40), .unset, .unset, .unset] [(own_pr (((p3.toUInt32 >>> ((10 : Int32) &&& 31).toUInt32).toInt32) &&& (3 : Int32)) bz27 bz40), (.int qs), (.ref bz8)]))
  obtain ⟨cq97, kqz97, qz97a, qz97b, qz97c⟩ := isOf hZ ez96 Ex_74
  obtain ⟨_, _, ⟨T97, Lz97, kz97, nz97⟩, -, X97, ⟨Lc97, hQ97, lz97, yz97, zz97⟩, st97⟩ := X96.virtualBack hx (y := (⟨"com/example/nodal_ledger/nodalledger/csv/DistinctFields", "value", "(ILjava/lang/Object;)Ljava/lang/Object;"⟩ : MethodName)) (z := (⟨"com/example/nodal_ledger/nodalledger/csv/DistinctFields", "value", "(ILjava/lang/Object;)Ljava/lang/Object;"⟩ : MethodName)) hown (mvT hZ (hw _ (List.mem_of_getElem? (i := 57) rfl))) (mvT hZ (hw _ (List.mem_of_getElem? (i := 58) rfl))) (notFace_of_selects (args := #[]) (mvT hZ (hw _ (List.mem_of_getElem? (i := 60) rfl)))) (mvT hZ (hw _ (List.mem_of_getElem? (i := 60) rfl))) (mvT hZ (hw _ (List.mem_of_getElem? (i := 59) rfl))) (by decide) (backOf (W := 0) (rm14 l Z a0 hw [] bz8 qs (own_pr (((p3.toUInt32 >>> ((10 : Int32) &&& 31).toUInt32).toInt32) &&& (3 : Int32)) bz27 bz40) av11 ar11 kv11 kr11 (fun _ => .null) (fun _ => .null) hz72 n0 (Nat.le_trans Z0 K_90.1) (own_prR _ _ _) F_81 F_82 Af_75 Af_76 (own_bnd hqs_)) hZ (hw _ (List.mem_of_getElem? (i := 61) rfl)) (hw _ (List.mem_of_getElem? (i := 3) rfl)) (by decide) (by decide)) qz97a qz97c (g := (mkF m 153 #[.val (.int p1), .val (.int p2), .val (.int p3), .val (.ref bz1), .val (.ref bz8), .val (.int (0 : Int32)), .val (.int sl21), .val (.ref bz27), .val (.ref bz40), .val (.ref bz55), .val (.ref bz72), .val (.int ks), .val (own_pr (((p3.toUInt32 >>> ((2 : Int32) &&& 31).toUInt32).toInt32) &&& (3 : Int32)) bz27 bz40), .val (.int ks2), .val (own_pr (((p3.toUInt32 >>> ((6 : Int32) &&& 31).toUInt32).toInt32) &&& (3 : Int32)) bz27 bz40), .val (.int qs), .val (own_pr (((p3.toUInt32 >>> ((10 : Int32) &&& 31).toUInt32).toInt32) &&& (3 : Int32)) bz27 bz40), .unset, .unset, .unset] [(own_pr (((p3.toUInt32 >>> ((10 : Int32) &&& 31).toUInt32).toInt32) &&& (3 : Int32)) bz27 bz40), (.int qs), (.ref bz8)])) rfl (by rw [hml]; rfl) (Steps.refl _) (argsL := [(.int qs), (own_pr (((p3.toUInt32 >>> ((10 : Int32) &&& 31).toUInt32).toInt32) &&& (3 : Int32)) bz27 bz40)]) (rest := []) (lenOf own_pd9 rfl) rfl (by show 2 * 0 + _ ≤ _; exact Nat.le_of_eq rfl) (hb hby at_153) (fun _ _ => ⟨rfl, ez96, (by decide : 13 + 0 ≤ _), (by decide : 4111 + 0 ≤ _)⟩)
  dsimp only [Pt.U, Pt.locs, Pt.cells, Pt.slots] at X97 lz97 yz97 zz97 st97 hQ97
  subst lz97 yz97 zz97
  have hrv97 := own_valR qs (own_pr (((p3.toUInt32 >>> ((10 : Int32) &&& 31).toUInt32).toInt32) &&& (3 : Int32)) bz27 bz40) (own_bnd hqs_) Af_76 Af_75
  obtain ⟨rfl, Nq97, ez97⟩ := hQ97
  have N97 := Fr.app N96 Nq97
  refine OGo.tr st97 ?_
  show OGo p.tables e below _ (T97.setTop (mkF m 156 #[.val (.int p1), .val (.int p2), .val (.int p3), .val (.ref bz1), .val (.ref bz8), .val (.int (0 : Int32)), .val (.int sl21), .val (.ref bz27), .val (.ref bz40), .val (.ref bz55), .val (.ref bz72), .val (.int ks), .val (own_pr (((p3.toUInt32 >>> ((2 : Int32) &&& 31).toUInt32).toInt32) &&& (3 : Int32)) bz27 bz40), .val (.int ks2), .val (own_pr (((p3.toUInt32 >>> ((6 : Int32) &&& 31).toUInt32).toInt32) &&& (3 : Int32)) bz27 bz40), .val (.int qs), .val (own_pr (((p3.toUInt32 >>> ((10 : Int32) &&& 31).toUInt32).toInt32) &&& (3 : Int32)) bz27 bz40), .unset, .unset, .unset] [(own_val qs (own_pr (((p3.toUInt32 >>> ((10 : Int32) &&& 31).toUInt32).toInt32) &&& (3 : Int32)) bz27 bz40) (fun _ => .null) (fun _ => .null))]))
  refine OGo.st (fun _ k_ => XS.astore X97.here hx rfl (hb hby at_156) rfl hrv97 (l' := #[.val (.int p1), .val (.int p2), .val (.int p3), .val (.ref bz1), .val (.ref bz8), .val (.int (0 : Int32)), .val (.int sl21), .val (.ref bz27), .val (.ref bz40), .val (.ref bz55), .val (.ref bz72), .val (.int ks), .val (own_pr (((p3.toUInt32 >>> ((2 : Int32) &&& 31).toUInt32).toInt32) &&& (3 : Int32)) bz27 bz40), .val (.int ks2), .val (own_pr (((p3.toUInt32 >>> ((6 : Int32) &&& 31).toUInt32).toInt32) &&& (3 : Int32)) bz27 bz40), .val (.int qs), .val (own_pr (((p3.toUInt32 >>> ((10 : Int32) &&& 31).toUInt32).toInt32) &&& (3 : Int32)) bz27 bz40), .val (own_val qs (own_pr (((p3.toUInt32 >>> ((10 : Int32) &&& 31).toUInt32).toInt32) &&& (3 : Int32)) bz27 bz40) (fun _ => .null) (fun _ => .null)), .unset, .unset]) (XS.store1 rfl (Or.inl rfl) (XT.cat1 hrv97)) k_) ?_
  show OGo p.tables e below _ (T97.setTop (mkF m 158 #[.val (.int p1), .val (.int p2), .val (.int p3), .val (.ref bz1), .val (.ref bz8), .val (.int (0 : Int32)), .val (.int sl21), .val (.ref bz27), .val (.ref bz40), .val (.ref bz55), .val (.ref bz72), .val (.int ks), .val (own_pr (((p3.toUInt32 >>> ((2 : Int32) &&& 31).toUInt32).toInt32) &&& (3 : Int32)) bz27 bz40), .val (.int ks2), .val (own_pr (((p3.toUInt32 >>> ((6 : Int32) &&& 31).toUInt32).toInt32) &&& (3 : Int32)) bz27 bz40), .val (.int qs), .val (own_pr (((p3.toUInt32 >>> ((10 : Int32) &&& 31).toUInt32).toInt32) &&& (3 : Int32)) bz27 bz40), .val (own_val qs (own_pr (((p3.toUInt32 >>> ((10 : Int32) &&& 31).toUInt32).toInt32) &&& (3 : Int32)) bz27 bz40) (fun _ => .null) (fun _ => .null)), .unset, .unset] []))
  refine OGo.st (fun _ k_ => XS.aload X97.here hx rfl (hb hby at_158) rfl rfl k_) ?_
  show OGo p.tables e below _ (T97.setTop (mkF m 160 #[.val (.int p1), .val (.int p2), .val (.int p3), .val (.ref bz1), .val (.ref bz8), .val (.int (0 : Int32)), .val (.int sl21), .val (.ref bz27), .val (.ref bz40), .val (.ref bz55), .val (.ref bz72), .val (.int ks), .val (own_pr (((p3.toUInt32 >>> ((2 : Int32) &&& 31).toUInt32).toInt32) &&& (3 : Int32)) bz27 bz40), .val (.int ks2), .val (own_pr (((p3.toUInt32 >>> ((6 : Int32) &&& 31).toUInt32).toInt32) &&& (3 : Int32)) bz27 bz40), .val (.int qs), .val (own_pr (((p3.toUInt32 >>> ((10 : Int32) &&& 31).toUInt32).toInt32) &&& (3 : Int32)) bz27 bz40), .val (own_val qs (own_pr (((p3.toUInt32 >>> ((10 : Int32) &&& 31).toUInt32).toInt32) &&& (3 : Int32)) bz27 bz40) (fun _ => .null) (fun _ => .null)), .unset, .unset] [(.ref bz8)]))
  refine OGo.st (fun _ k_ => XS.iload X97.here hx rfl (hb hby at_160) rfl k_) ?_
  show OGo p.tables e below _ (T97.setTop (mkF m 162 #[.val (.int p1), .val (.int p2), .val (.int p3), .val (.ref bz1), .val (.ref bz8), .val (.int (0 : Int32)), .val (.int sl21), .val (.ref bz27), .val (.ref bz40), .val (.ref bz55), .val (.ref bz72), .val (.int ks), .val (own_pr (((p3.toUInt32 >>> ((2 : Int32) &&& 31).toUInt32).toInt32) &&& (3 : Int32)) bz27 bz40), .val (.int ks2), .val (own_pr (((p3.toUInt32 >>> ((6 : Int32) &&& 31).toUInt32).toInt32) &&& (3 : Int32)) bz27 bz40), .val (.int qs), .val (own_pr (((p3.toUInt32 >>> ((10 : Int32) &&& 31).toUInt32).toInt32) &&& (3 : Int32)) bz27 bz40), .val (own_val qs (own_pr (((p3.toUInt32 >>> ((10 : Int32) &&& 31).toUInt32).toInt32) &&& (3 : Int32)) bz27 bz40) (fun _ => .null) (fun _ => .null)), .unset, .unset] [(.int ks), (.ref bz8)]))
  refine OGo.st (fun _ k_ => XS.aload X97.here hx rfl (hb hby at_162) rfl (own_prR _ _ _) k_) ?_
  show OGo p.tables e below _ (T97.setTop (mkF m 164 #[.val (.int p1), .val (.int p2), .val (.int p3), .val (.ref bz1), .val (.ref bz8), .val (.int (0 : Int32)), .val (.int sl21), .val (.ref bz27), .val (.ref bz40), .val (.ref bz55), .val (.ref bz72), .val (.int ks), .val (own_pr (((p3.toUInt32 >>> ((2 : Int32) &&& 31).toUInt32).toInt32) &&& (3 : Int32)) bz27 bz40), .val (.int ks2), .val (own_pr (((p3.toUInt32 >>> ((6 : Int32) &&& 31).toUInt32).toInt32) &&& (3 : Int32)) bz27 bz40), .val (.int qs), .val (own_pr (((p3.toUInt32 >>> ((10 : Int32) &&& 31).toUInt32).toInt32) &&& (3 : Int32)) bz27 bz40), .val (own_val qs (own_pr (((p3.toUInt32 >>> ((10 : Int32) &&& 31).toUInt32).toInt32) &&& (3 : Int32)) bz27 bz40) (fun _ => .null) (fun _ => .null)), .unset, .unset] [(own_pr (((p3.toUInt32 >>> ((2 : Int32) &&& 31).toUInt32).toInt32) &&& (3 : Int32)) bz27 bz40), (.int ks), (.ref bz8)]))
  refine OGo.st (fun _ k_ => XS.aload X97.here hx rfl (hb hby at_164) rfl rfl k_) ?_
  show OGo p.tables e below _ (T97.setTop (mkF m 166 #[.val (.int p1), .val (.int p2), .val (.int p3), .val (.ref bz1), .val (.ref bz8), .val (.int (0 : Int32)), .val (.int sl21), .val (.ref bz27), .val (.ref bz40), .val (.ref bz55), .val (.ref bz72), .val (.int ks), .val (own_pr (((p3.toUInt32 >>> ((2 : Int32) &&& 31).toUInt32).toInt32) &&& (3 : Int32)) bz27 bz40), .val (.int ks2), .val (own_pr (((p3.toUInt32 >>> ((6 : Int32) &&& 31).toUInt32).toInt32) &&& (3 : Int32)) bz27 bz40), .val (.int qs), .val (own_pr (((p3.toUInt32 >>> ((10 : Int32) &&& 31).toUInt32).toInt32) &&& (3 : Int32)) bz27 bz40), .val (own_val qs (own_pr (((p3.toUInt32 >>> ((10 : Int32) &&& 31).toUInt32).toInt32) &&& (3 : Int32)) bz27 bz40) (fun _ => .null) (fun _ => .null)), .unset, .unset] [(.ref bz55), (own_pr (((p3.toUInt32 >>> ((2 : Int32) &&& 31).toUInt32).toInt32) &&& (3 : Int32)) bz27 bz40), (.int ks), (.ref bz8)]))
  obtain ⟨cq98, kqz98, qz98a, qz98b, qz98c⟩ := isOf hZ ez97 Ex_74
  obtain ⟨_, _, ⟨T98, Lz98, kz98, nz98⟩, -, X98, ⟨Lc98, hQ98, lz98, yz98, zz98⟩, st98⟩ := X97.virtualBack hx (y := (⟨"com/example/nodal_ledger/nodalledger/csv/DistinctFields", "keep", "(ILjava/lang/Object;Ljava/lang/Object;)V"⟩ : MethodName)) (z := (⟨"com/example/nodal_ledger/nodalledger/csv/DistinctFields", "keep", "(ILjava/lang/Object;Ljava/lang/Object;)V"⟩ : MethodName)) hown (mvT hZ (hw _ (List.mem_of_getElem? (i := 62) rfl))) (mvT hZ (hw _ (List.mem_of_getElem? (i := 63) rfl))) (notFace_of_selects (args := #[]) (mvT hZ (hw _ (List.mem_of_getElem? (i := 65) rfl)))) (mvT hZ (hw _ (List.mem_of_getElem? (i := 65) rfl))) (mvT hZ (hw _ (List.mem_of_getElem? (i := 64) rfl))) (by decide) (backOf (W := 0) (rm15 l Z a0 hw [] bz8 ks (own_pr (((p3.toUInt32 >>> ((2 : Int32) &&& 31).toUInt32).toInt32) &&& (3 : Int32)) bz27 bz40) bz55 av11 ar11 kv11 kr11 (fun _ => .null) (fun _ => .null) hz72 n0 (Nat.le_trans Z0 K_90.1) (own_prR _ _ _) F_81 F_82 Af_75 (show n0 ≤ av11 by omega) Af_76 (show n0 ≤ ar11 by omega) (own_bnd hks_) (by omega) (by omega) ov11 or11 (own_objpr (Ins.of_exa Ex_84 (hw _ (List.mem_of_getElem? (i := 67) rfl))) (Ins.of_exa Ex_86 (hw _ (List.mem_of_getElem? (i := 67) rfl)))) (own_objR (Ins.of_exa Ex_88 (hw _ (List.mem_of_getElem? (i := 67) rfl))))) hZ (hw _ (List.mem_of_getElem? (i := 66) rfl)) (hw _ (List.mem_of_getElem? (i := 3) rfl)) (by decide) (by decide)) qz98a qz98c (g := (mkF m 166 #[.val (.int p1), .val (.int p2), .val (.int p3), .val (.ref bz1), .val (.ref bz8), .val (.int (0 : Int32)), .val (.int sl21), .val (.ref bz27), .val (.ref bz40), .val (.ref bz55), .val (.ref bz72), .val (.int ks), .val (own_pr (((p3.toUInt32 >>> ((2 : Int32) &&& 31).toUInt32).toInt32) &&& (3 : Int32)) bz27 bz40), .val (.int ks2), .val (own_pr (((p3.toUInt32 >>> ((6 : Int32) &&& 31).toUInt32).toInt32) &&& (3 : Int32)) bz27 bz40), .val (.int qs), .val (own_pr (((p3.toUInt32 >>> ((10 : Int32) &&& 31).toUInt32).toInt32) &&& (3 : Int32)) bz27 bz40), .val (own_val qs (own_pr (((p3.toUInt32 >>> ((10 : Int32) &&& 31).toUInt32).toInt32) &&& (3 : Int32)) bz27 bz40) (fun _ => .null) (fun _ => .null)), .unset, .unset] [(.ref bz55), (own_pr (((p3.toUInt32 >>> ((2 : Int32) &&& 31).toUInt32).toInt32) &&& (3 : Int32)) bz27 bz40), (.int ks), (.ref bz8)])) rfl (by rw [hml]; rfl) (Steps.refl _) (argsL := [(.int ks), (own_pr (((p3.toUInt32 >>> ((2 : Int32) &&& 31).toUInt32).toInt32) &&& (3 : Int32)) bz27 bz40), (.ref bz55)]) (rest := []) (lenOf own_pd10 rfl) rfl (by show 2 * 0 + _ ≤ _; exact Nat.le_of_eq rfl) (hb hby at_166) (fun _ _ => ⟨rfl, ez97, (by decide : 13 + 0 ≤ _), (by decide : 4111 + 0 ≤ _)⟩)
  dsimp only [Pt.U, Pt.locs, Pt.cells, Pt.slots] at X98 lz98 yz98 zz98 st98 hQ98
  subst lz98 yz98 zz98
  obtain ⟨rfl, Nq98, Kq98, fv98, fr98⟩ := hQ98
  have N98 := Fr.app N97 Nq98
  have Af_99 := Af_73.keep Kq98 (ninS (show @Ne Nat bz1 ar11 by omega) (ninS (show @Ne Nat bz1 av11 by omega) nin0))
  have Ex_100 := Ex_74.keep Kq98
  have F_101 := F_77.keep Kq98 (ninS (show @Ne Nat bz8 ar11 by omega) (ninS (show @Ne Nat bz8 av11 by omega) nin0))
  have F_102 := F_78.keep Kq98 (ninS (show @Ne Nat bz8 ar11 by omega) (ninS (show @Ne Nat bz8 av11 by omega) nin0))
  have F_103 := F_79.keep Kq98 (ninS (show @Ne Nat bz8 ar11 by omega) (ninS (show @Ne Nat bz8 av11 by omega) nin0))
  have F_104 := F_80.keep Kq98 (ninS (show @Ne Nat bz8 ar11 by omega) (ninS (show @Ne Nat bz8 av11 by omega) nin0))
  have F_105 := F_81.keep Kq98 (ninS (show @Ne Nat bz8 ar11 by omega) (ninS (show @Ne Nat bz8 av11 by omega) nin0))
  have F_106 := F_82.keep Kq98 (ninS (show @Ne Nat bz8 ar11 by omega) (ninS (show @Ne Nat bz8 av11 by omega) nin0))
  have F_107 := F_83.keep Kq98 (ninS (show @Ne Nat bz8 ar11 by omega) (ninS (show @Ne Nat bz8 av11 by omega) nin0))
  have Ex_108 := Ex_84.keep Kq98
  have Af_109 := Af_85.keep Kq98 (ninS (Ne.symm (Nat.ne_of_lt lt_ar11_bz27)) (ninS (Ne.symm (Nat.ne_of_lt lt_av11_bz27)) nin0))
  have Ex_110 := Ex_86.keep Kq98
  have Af_111 := Af_87.keep Kq98 (ninS (Ne.symm (Nat.ne_of_lt lt_ar11_bz40)) (ninS (Ne.symm (Nat.ne_of_lt lt_av11_bz40)) nin0))
  have Ex_112 := Ex_88.keep Kq98
  have Af_113 := Af_89.keep Kq98 (ninS (Ne.symm (Nat.ne_of_lt lt_ar11_bz55)) (ninS (Ne.symm (Nat.ne_of_lt lt_av11_bz55)) nin0))
  have Ex_114 := Q72.keep Kq98
  have Af_115 := V_bz72.keep Kq98 (ninS (Ne.symm (Nat.ne_of_lt lt_ar11_bz72)) (ninS (Ne.symm (Nat.ne_of_lt lt_av11_bz72)) nin0))
  have K_116 : Keep h0 T98.heap [] := K_90.trans Kq98 (allS (Or.inr (show h0.size ≤ ar11 by omega)) (allS (Or.inr (show h0.size ≤ av11 by omega)) all0))
  refine OGo.tr st98 ?_
  show OGo p.tables e below _ (T98.setTop (mkF m 169 #[.val (.int p1), .val (.int p2), .val (.int p3), .val (.ref bz1), .val (.ref bz8), .val (.int (0 : Int32)), .val (.int sl21), .val (.ref bz27), .val (.ref bz40), .val (.ref bz55), .val (.ref bz72), .val (.int ks), .val (own_pr (((p3.toUInt32 >>> ((2 : Int32) &&& 31).toUInt32).toInt32) &&& (3 : Int32)) bz27 bz40), .val (.int ks2), .val (own_pr (((p3.toUInt32 >>> ((6 : Int32) &&& 31).toUInt32).toInt32) &&& (3 : Int32)) bz27 bz40), .val (.int qs), .val (own_pr (((p3.toUInt32 >>> ((10 : Int32) &&& 31).toUInt32).toInt32) &&& (3 : Int32)) bz27 bz40), .val (own_val qs (own_pr (((p3.toUInt32 >>> ((10 : Int32) &&& 31).toUInt32).toInt32) &&& (3 : Int32)) bz27 bz40) (fun _ => .null) (fun _ => .null)), .unset, .unset] []))
  refine OGo.st (fun _ k_ => XS.aload X98.here hx rfl (hb hby at_169) rfl rfl k_) ?_
  show OGo p.tables e below _ (T98.setTop (mkF m 171 #[.val (.int p1), .val (.int p2), .val (.int p3), .val (.ref bz1), .val (.ref bz8), .val (.int (0 : Int32)), .val (.int sl21), .val (.ref bz27), .val (.ref bz40), .val (.ref bz55), .val (.ref bz72), .val (.int ks), .val (own_pr (((p3.toUInt32 >>> ((2 : Int32) &&& 31).toUInt32).toInt32) &&& (3 : Int32)) bz27 bz40), .val (.int ks2), .val (own_pr (((p3.toUInt32 >>> ((6 : Int32) &&& 31).toUInt32).toInt32) &&& (3 : Int32)) bz27 bz40), .val (.int qs), .val (own_pr (((p3.toUInt32 >>> ((10 : Int32) &&& 31).toUInt32).toInt32) &&& (3 : Int32)) bz27 bz40), .val (own_val qs (own_pr (((p3.toUInt32 >>> ((10 : Int32) &&& 31).toUInt32).toInt32) &&& (3 : Int32)) bz27 bz40) (fun _ => .null) (fun _ => .null)), .unset, .unset] [(.ref bz8)]))
  refine OGo.st (fun _ k_ => XS.iload X98.here hx rfl (hb hby at_171) rfl k_) ?_
  show OGo p.tables e below _ (T98.setTop (mkF m 173 #[.val (.int p1), .val (.int p2), .val (.int p3), .val (.ref bz1), .val (.ref bz8), .val (.int (0 : Int32)), .val (.int sl21), .val (.ref bz27), .val (.ref bz40), .val (.ref bz55), .val (.ref bz72), .val (.int ks), .val (own_pr (((p3.toUInt32 >>> ((2 : Int32) &&& 31).toUInt32).toInt32) &&& (3 : Int32)) bz27 bz40), .val (.int ks2), .val (own_pr (((p3.toUInt32 >>> ((6 : Int32) &&& 31).toUInt32).toInt32) &&& (3 : Int32)) bz27 bz40), .val (.int qs), .val (own_pr (((p3.toUInt32 >>> ((10 : Int32) &&& 31).toUInt32).toInt32) &&& (3 : Int32)) bz27 bz40), .val (own_val qs (own_pr (((p3.toUInt32 >>> ((10 : Int32) &&& 31).toUInt32).toInt32) &&& (3 : Int32)) bz27 bz40) (fun _ => .null) (fun _ => .null)), .unset, .unset] [(.int ks2), (.ref bz8)]))
  refine OGo.st (fun _ k_ => XS.aload X98.here hx rfl (hb hby at_173) rfl (own_prR _ _ _) k_) ?_
  show OGo p.tables e below _ (T98.setTop (mkF m 175 #[.val (.int p1), .val (.int p2), .val (.int p3), .val (.ref bz1), .val (.ref bz8), .val (.int (0 : Int32)), .val (.int sl21), .val (.ref bz27), .val (.ref bz40), .val (.ref bz55), .val (.ref bz72), .val (.int ks), .val (own_pr (((p3.toUInt32 >>> ((2 : Int32) &&& 31).toUInt32).toInt32) &&& (3 : Int32)) bz27 bz40), .val (.int ks2), .val (own_pr (((p3.toUInt32 >>> ((6 : Int32) &&& 31).toUInt32).toInt32) &&& (3 : Int32)) bz27 bz40), .val (.int qs), .val (own_pr (((p3.toUInt32 >>> ((10 : Int32) &&& 31).toUInt32).toInt32) &&& (3 : Int32)) bz27 bz40), .val (own_val qs (own_pr (((p3.toUInt32 >>> ((10 : Int32) &&& 31).toUInt32).toInt32) &&& (3 : Int32)) bz27 bz40) (fun _ => .null) (fun _ => .null)), .unset, .unset] [(own_pr (((p3.toUInt32 >>> ((6 : Int32) &&& 31).toUInt32).toInt32) &&& (3 : Int32)) bz27 bz40), (.int ks2), (.ref bz8)]))
  refine OGo.st (fun _ k_ => XS.aload X98.here hx rfl (hb hby at_175) rfl rfl k_) ?_
  show OGo p.tables e below _ (T98.setTop (mkF m 177 #[.val (.int p1), .val (.int p2), .val (.int p3), .val (.ref bz1), .val (.ref bz8), .val (.int (0 : Int32)), .val (.int sl21), .val (.ref bz27), .val (.ref bz40), .val (.ref bz55), .val (.ref bz72), .val (.int ks), .val (own_pr (((p3.toUInt32 >>> ((2 : Int32) &&& 31).toUInt32).toInt32) &&& (3 : Int32)) bz27 bz40), .val (.int ks2), .val (own_pr (((p3.toUInt32 >>> ((6 : Int32) &&& 31).toUInt32).toInt32) &&& (3 : Int32)) bz27 bz40), .val (.int qs), .val (own_pr (((p3.toUInt32 >>> ((10 : Int32) &&& 31).toUInt32).toInt32) &&& (3 : Int32)) bz27 bz40), .val (own_val qs (own_pr (((p3.toUInt32 >>> ((10 : Int32) &&& 31).toUInt32).toInt32) &&& (3 : Int32)) bz27 bz40) (fun _ => .null) (fun _ => .null)), .unset, .unset] [(.ref bz72), (own_pr (((p3.toUInt32 >>> ((6 : Int32) &&& 31).toUInt32).toInt32) &&& (3 : Int32)) bz27 bz40), (.int ks2), (.ref bz8)]))
  obtain ⟨cq117, kqz117, qz117a, qz117b, qz117c⟩ := isOf hZ rfl Ex_100
  obtain ⟨_, _, ⟨T117, Lz117, kz117, nz117⟩, -, X117, ⟨Lc117, hQ117, lz117, yz117, zz117⟩, st117⟩ := X98.virtualBack hx (y := (⟨"com/example/nodal_ledger/nodalledger/csv/DistinctFields", "keep", "(ILjava/lang/Object;Ljava/lang/Object;)V"⟩ : MethodName)) (z := (⟨"com/example/nodal_ledger/nodalledger/csv/DistinctFields", "keep", "(ILjava/lang/Object;Ljava/lang/Object;)V"⟩ : MethodName)) hown (mvT hZ (hw _ (List.mem_of_getElem? (i := 62) rfl))) (mvT hZ (hw _ (List.mem_of_getElem? (i := 63) rfl))) (notFace_of_selects (args := #[]) (mvT hZ (hw _ (List.mem_of_getElem? (i := 65) rfl)))) (mvT hZ (hw _ (List.mem_of_getElem? (i := 65) rfl))) (mvT hZ (hw _ (List.mem_of_getElem? (i := 64) rfl))) (by decide) (backOf (W := 0) (rm15 l Z a0 hw [] bz8 ks2 (own_pr (((p3.toUInt32 >>> ((6 : Int32) &&& 31).toUInt32).toInt32) &&& (3 : Int32)) bz27 bz40) bz72 av11 ar11 kv11 kr11 (own_kp ks (.ref bz55) (fun _ => .null)) (own_kp ks (own_pr (((p3.toUInt32 >>> ((2 : Int32) &&& 31).toUInt32).toInt32) &&& (3 : Int32)) bz27 bz40) (fun _ => .null)) T98.heap n0 (Nat.le_trans Z0 K_116.1) (own_prR _ _ _) F_105 F_106 fv98 (show n0 ≤ av11 by omega) fr98 (show n0 ≤ ar11 by omega) (own_bnd hks2_) (by omega) (by omega) ov11 or11 (own_objpr (Ins.of_exa Ex_108 (hw _ (List.mem_of_getElem? (i := 67) rfl))) (Ins.of_exa Ex_110 (hw _ (List.mem_of_getElem? (i := 67) rfl)))) (own_objR (Ins.of_exa Ex_114 (hw _ (List.mem_of_getElem? (i := 67) rfl))))) hZ (hw _ (List.mem_of_getElem? (i := 66) rfl)) (hw _ (List.mem_of_getElem? (i := 3) rfl)) (by decide) (by decide)) qz117a qz117c (g := (mkF m 177 #[.val (.int p1), .val (.int p2), .val (.int p3), .val (.ref bz1), .val (.ref bz8), .val (.int (0 : Int32)), .val (.int sl21), .val (.ref bz27), .val (.ref bz40), .val (.ref bz55), .val (.ref bz72), .val (.int ks), .val (own_pr (((p3.toUInt32 >>> ((2 : Int32) &&& 31).toUInt32).toInt32) &&& (3 : Int32)) bz27 bz40), .val (.int ks2), .val (own_pr (((p3.toUInt32 >>> ((6 : Int32) &&& 31).toUInt32).toInt32) &&& (3 : Int32)) bz27 bz40), .val (.int qs), .val (own_pr (((p3.toUInt32 >>> ((10 : Int32) &&& 31).toUInt32).toInt32) &&& (3 : Int32)) bz27 bz40), .val (own_val qs (own_pr (((p3.toUInt32 >>> ((10 : Int32) &&& 31).toUInt32).toInt32) &&& (3 : Int32)) bz27 bz40) (fun _ => .null) (fun _ => .null)), .unset, .unset] [(.ref bz72), (own_pr (((p3.toUInt32 >>> ((6 : Int32) &&& 31).toUInt32).toInt32) &&& (3 : Int32)) bz27 bz40), (.int ks2), (.ref bz8)])) rfl (by rw [hml]; rfl) (Steps.refl _) (argsL := [(.int ks2), (own_pr (((p3.toUInt32 >>> ((6 : Int32) &&& 31).toUInt32).toInt32) &&& (3 : Int32)) bz27 bz40), (.ref bz72)]) (rest := []) (lenOf own_pd10 rfl) rfl (by show 2 * 0 + _ ≤ _; exact Nat.le_of_eq rfl) (hb hby at_177) (fun _ _ => ⟨rfl, rfl, (by decide : 13 + 0 ≤ _), (by decide : 4111 + 0 ≤ _)⟩)
  dsimp only [Pt.U, Pt.locs, Pt.cells, Pt.slots] at X117 lz117 yz117 zz117 st117 hQ117
  subst lz117 yz117 zz117
  obtain ⟨rfl, Nq117, Kq117, fv117, fr117⟩ := hQ117
  have N117 := Fr.app N98 Nq117
  have Af_118 := Af_99.keep Kq117 (ninS (show @Ne Nat bz1 ar11 by omega) (ninS (show @Ne Nat bz1 av11 by omega) nin0))
  have Ex_119 := Ex_100.keep Kq117
  have F_120 := F_101.keep Kq117 (ninS (show @Ne Nat bz8 ar11 by omega) (ninS (show @Ne Nat bz8 av11 by omega) nin0))
  have F_121 := F_102.keep Kq117 (ninS (show @Ne Nat bz8 ar11 by omega) (ninS (show @Ne Nat bz8 av11 by omega) nin0))
  have F_122 := F_103.keep Kq117 (ninS (show @Ne Nat bz8 ar11 by omega) (ninS (show @Ne Nat bz8 av11 by omega) nin0))
  have F_123 := F_104.keep Kq117 (ninS (show @Ne Nat bz8 ar11 by omega) (ninS (show @Ne Nat bz8 av11 by omega) nin0))
  have F_124 := F_105.keep Kq117 (ninS (show @Ne Nat bz8 ar11 by omega) (ninS (show @Ne Nat bz8 av11 by omega) nin0))
  have F_125 := F_106.keep Kq117 (ninS (show @Ne Nat bz8 ar11 by omega) (ninS (show @Ne Nat bz8 av11 by omega) nin0))
  have F_126 := F_107.keep Kq117 (ninS (show @Ne Nat bz8 ar11 by omega) (ninS (show @Ne Nat bz8 av11 by omega) nin0))
  have Ex_127 := Ex_108.keep Kq117
  have Af_128 := Af_109.keep Kq117 (ninS (Ne.symm (Nat.ne_of_lt lt_ar11_bz27)) (ninS (Ne.symm (Nat.ne_of_lt lt_av11_bz27)) nin0))
  have Ex_129 := Ex_110.keep Kq117
  have Af_130 := Af_111.keep Kq117 (ninS (Ne.symm (Nat.ne_of_lt lt_ar11_bz40)) (ninS (Ne.symm (Nat.ne_of_lt lt_av11_bz40)) nin0))
  have Ex_131 := Ex_112.keep Kq117
  have Af_132 := Af_113.keep Kq117 (ninS (Ne.symm (Nat.ne_of_lt lt_ar11_bz55)) (ninS (Ne.symm (Nat.ne_of_lt lt_av11_bz55)) nin0))
  have Ex_133 := Ex_114.keep Kq117
  have Af_134 := Af_115.keep Kq117 (ninS (Ne.symm (Nat.ne_of_lt lt_ar11_bz72)) (ninS (Ne.symm (Nat.ne_of_lt lt_av11_bz72)) nin0))
  have K_135 : Keep h0 T117.heap [] := K_116.trans Kq117 (allS (Or.inr (show h0.size ≤ ar11 by omega)) (allS (Or.inr (show h0.size ≤ av11 by omega)) all0))
  refine OGo.tr st117 ?_
  show OGo p.tables e below _ (T117.setTop (mkF m 180 #[.val (.int p1), .val (.int p2), .val (.int p3), .val (.ref bz1), .val (.ref bz8), .val (.int (0 : Int32)), .val (.int sl21), .val (.ref bz27), .val (.ref bz40), .val (.ref bz55), .val (.ref bz72), .val (.int ks), .val (own_pr (((p3.toUInt32 >>> ((2 : Int32) &&& 31).toUInt32).toInt32) &&& (3 : Int32)) bz27 bz40), .val (.int ks2), .val (own_pr (((p3.toUInt32 >>> ((6 : Int32) &&& 31).toUInt32).toInt32) &&& (3 : Int32)) bz27 bz40), .val (.int qs), .val (own_pr (((p3.toUInt32 >>> ((10 : Int32) &&& 31).toUInt32).toInt32) &&& (3 : Int32)) bz27 bz40), .val (own_val qs (own_pr (((p3.toUInt32 >>> ((10 : Int32) &&& 31).toUInt32).toInt32) &&& (3 : Int32)) bz27 bz40) (fun _ => .null) (fun _ => .null)), .unset, .unset] []))
  refine OGo.st (fun _ k_ => XS.aload X117.here hx rfl (hb hby at_180) rfl rfl k_) ?_
  show OGo p.tables e below _ (T117.setTop (mkF m 182 #[.val (.int p1), .val (.int p2), .val (.int p3), .val (.ref bz1), .val (.ref bz8), .val (.int (0 : Int32)), .val (.int sl21), .val (.ref bz27), .val (.ref bz40), .val (.ref bz55), .val (.ref bz72), .val (.int ks), .val (own_pr (((p3.toUInt32 >>> ((2 : Int32) &&& 31).toUInt32).toInt32) &&& (3 : Int32)) bz27 bz40), .val (.int ks2), .val (own_pr (((p3.toUInt32 >>> ((6 : Int32) &&& 31).toUInt32).toInt32) &&& (3 : Int32)) bz27 bz40), .val (.int qs), .val (own_pr (((p3.toUInt32 >>> ((10 : Int32) &&& 31).toUInt32).toInt32) &&& (3 : Int32)) bz27 bz40), .val (own_val qs (own_pr (((p3.toUInt32 >>> ((10 : Int32) &&& 31).toUInt32).toInt32) &&& (3 : Int32)) bz27 bz40) (fun _ => .null) (fun _ => .null)), .unset, .unset] [(.ref bz8)]))
  refine OGo.st (fun _ k_ => XS.iload X117.here hx rfl (hb hby at_182) rfl k_) ?_
  show OGo p.tables e below _ (T117.setTop (mkF m 184 #[.val (.int p1), .val (.int p2), .val (.int p3), .val (.ref bz1), .val (.ref bz8), .val (.int (0 : Int32)), .val (.int sl21), .val (.ref bz27), .val (.ref bz40), .val (.ref bz55), .val (.ref bz72), .val (.int ks), .val (own_pr (((p3.toUInt32 >>> ((2 : Int32) &&& 31).toUInt32).toInt32) &&& (3 : Int32)) bz27 bz40), .val (.int ks2), .val (own_pr (((p3.toUInt32 >>> ((6 : Int32) &&& 31).toUInt32).toInt32) &&& (3 : Int32)) bz27 bz40), .val (.int qs), .val (own_pr (((p3.toUInt32 >>> ((10 : Int32) &&& 31).toUInt32).toInt32) &&& (3 : Int32)) bz27 bz40), .val (own_val qs (own_pr (((p3.toUInt32 >>> ((10 : Int32) &&& 31).toUInt32).toInt32) &&& (3 : Int32)) bz27 bz40) (fun _ => .null) (fun _ => .null)), .unset, .unset] [(.int qs), (.ref bz8)]))
  refine OGo.st (fun _ k_ => XS.aload X117.here hx rfl (hb hby at_184) rfl (own_prR _ _ _) k_) ?_
  show OGo p.tables e below _ (T117.setTop (mkF m 186 #[.val (.int p1), .val (.int p2), .val (.int p3), .val (.ref bz1), .val (.ref bz8), .val (.int (0 : Int32)), .val (.int sl21), .val (.ref bz27), .val (.ref bz40), .val (.ref bz55), .val (.ref bz72), .val (.int ks), .val (own_pr (((p3.toUInt32 >>> ((2 : Int32) &&& 31).toUInt32).toInt32) &&& (3 : Int32)) bz27 bz40), .val (.int ks2), .val (own_pr (((p3.toUInt32 >>> ((6 : Int32) &&& 31).toUInt32).toInt32) &&& (3 : Int32)) bz27 bz40), .val (.int qs), .val (own_pr (((p3.toUInt32 >>> ((10 : Int32) &&& 31).toUInt32).toInt32) &&& (3 : Int32)) bz27 bz40), .val (own_val qs (own_pr (((p3.toUInt32 >>> ((10 : Int32) &&& 31).toUInt32).toInt32) &&& (3 : Int32)) bz27 bz40) (fun _ => .null) (fun _ => .null)), .unset, .unset] [(own_pr (((p3.toUInt32 >>> ((10 : Int32) &&& 31).toUInt32).toInt32) &&& (3 : Int32)) bz27 bz40), (.int qs), (.ref bz8)]))
  obtain ⟨cq136, kqz136, qz136a, qz136b, qz136c⟩ := isOf hZ rfl Ex_119
  obtain ⟨_, _, ⟨T136, Lz136, kz136, nz136⟩, -, X136, ⟨Lc136, hQ136, lz136, yz136, zz136⟩, st136⟩ := X117.virtualBack hx (y := (⟨"com/example/nodal_ledger/nodalledger/csv/DistinctFields", "value", "(ILjava/lang/Object;)Ljava/lang/Object;"⟩ : MethodName)) (z := (⟨"com/example/nodal_ledger/nodalledger/csv/DistinctFields", "value", "(ILjava/lang/Object;)Ljava/lang/Object;"⟩ : MethodName)) hown (mvT hZ (hw _ (List.mem_of_getElem? (i := 57) rfl))) (mvT hZ (hw _ (List.mem_of_getElem? (i := 58) rfl))) (notFace_of_selects (args := #[]) (mvT hZ (hw _ (List.mem_of_getElem? (i := 60) rfl)))) (mvT hZ (hw _ (List.mem_of_getElem? (i := 60) rfl))) (mvT hZ (hw _ (List.mem_of_getElem? (i := 59) rfl))) (by decide) (backOf (W := 0) (rm14 l Z a0 hw [] bz8 qs (own_pr (((p3.toUInt32 >>> ((10 : Int32) &&& 31).toUInt32).toInt32) &&& (3 : Int32)) bz27 bz40) av11 ar11 kv11 kr11 (own_kp ks2 (.ref bz72) (own_kp ks (.ref bz55) (fun _ => .null))) (own_kp ks2 (own_pr (((p3.toUInt32 >>> ((6 : Int32) &&& 31).toUInt32).toInt32) &&& (3 : Int32)) bz27 bz40) (own_kp ks (own_pr (((p3.toUInt32 >>> ((2 : Int32) &&& 31).toUInt32).toInt32) &&& (3 : Int32)) bz27 bz40) (fun _ => .null))) T117.heap n0 (Nat.le_trans Z0 K_135.1) (own_prR _ _ _) F_124 F_125 fv117 fr117 (own_bnd hqs_)) hZ (hw _ (List.mem_of_getElem? (i := 61) rfl)) (hw _ (List.mem_of_getElem? (i := 3) rfl)) (by decide) (by decide)) qz136a qz136c (g := (mkF m 186 #[.val (.int p1), .val (.int p2), .val (.int p3), .val (.ref bz1), .val (.ref bz8), .val (.int (0 : Int32)), .val (.int sl21), .val (.ref bz27), .val (.ref bz40), .val (.ref bz55), .val (.ref bz72), .val (.int ks), .val (own_pr (((p3.toUInt32 >>> ((2 : Int32) &&& 31).toUInt32).toInt32) &&& (3 : Int32)) bz27 bz40), .val (.int ks2), .val (own_pr (((p3.toUInt32 >>> ((6 : Int32) &&& 31).toUInt32).toInt32) &&& (3 : Int32)) bz27 bz40), .val (.int qs), .val (own_pr (((p3.toUInt32 >>> ((10 : Int32) &&& 31).toUInt32).toInt32) &&& (3 : Int32)) bz27 bz40), .val (own_val qs (own_pr (((p3.toUInt32 >>> ((10 : Int32) &&& 31).toUInt32).toInt32) &&& (3 : Int32)) bz27 bz40) (fun _ => .null) (fun _ => .null)), .unset, .unset] [(own_pr (((p3.toUInt32 >>> ((10 : Int32) &&& 31).toUInt32).toInt32) &&& (3 : Int32)) bz27 bz40), (.int qs), (.ref bz8)])) rfl (by rw [hml]; rfl) (Steps.refl _) (argsL := [(.int qs), (own_pr (((p3.toUInt32 >>> ((10 : Int32) &&& 31).toUInt32).toInt32) &&& (3 : Int32)) bz27 bz40)]) (rest := []) (lenOf own_pd9 rfl) rfl (by show 2 * 0 + _ ≤ _; exact Nat.le_of_eq rfl) (hb hby at_186) (fun _ _ => ⟨rfl, rfl, (by decide : 13 + 0 ≤ _), (by decide : 4111 + 0 ≤ _)⟩)
  dsimp only [Pt.U, Pt.locs, Pt.cells, Pt.slots] at X136 lz136 yz136 zz136 st136 hQ136
  subst lz136 yz136 zz136
  have hrv136 := own_valR qs (own_pr (((p3.toUInt32 >>> ((10 : Int32) &&& 31).toUInt32).toInt32) &&& (3 : Int32)) bz27 bz40) (own_bnd hqs_) fr117 fv117
  obtain ⟨rfl, Nq136, ez136⟩ := hQ136
  have N136 := Fr.app N117 Nq136
  refine OGo.tr st136 ?_
  show OGo p.tables e below _ (T136.setTop (mkF m 189 #[.val (.int p1), .val (.int p2), .val (.int p3), .val (.ref bz1), .val (.ref bz8), .val (.int (0 : Int32)), .val (.int sl21), .val (.ref bz27), .val (.ref bz40), .val (.ref bz55), .val (.ref bz72), .val (.int ks), .val (own_pr (((p3.toUInt32 >>> ((2 : Int32) &&& 31).toUInt32).toInt32) &&& (3 : Int32)) bz27 bz40), .val (.int ks2), .val (own_pr (((p3.toUInt32 >>> ((6 : Int32) &&& 31).toUInt32).toInt32) &&& (3 : Int32)) bz27 bz40), .val (.int qs), .val (own_pr (((p3.toUInt32 >>> ((10 : Int32) &&& 31).toUInt32).toInt32) &&& (3 : Int32)) bz27 bz40), .val (own_val qs (own_pr (((p3.toUInt32 >>> ((10 : Int32) &&& 31).toUInt32).toInt32) &&& (3 : Int32)) bz27 bz40) (fun _ => .null) (fun _ => .null)), .unset, .unset] [(own_val qs (own_pr (((p3.toUInt32 >>> ((10 : Int32) &&& 31).toUInt32).toInt32) &&& (3 : Int32)) bz27 bz40) (own_kp ks2 (own_pr (((p3.toUInt32 >>> ((6 : Int32) &&& 31).toUInt32).toInt32) &&& (3 : Int32)) bz27 bz40) (own_kp ks (own_pr (((p3.toUInt32 >>> ((2 : Int32) &&& 31).toUInt32).toInt32) &&& (3 : Int32)) bz27 bz40) (fun _ => .null))) (own_kp ks2 (.ref bz72) (own_kp ks (.ref bz55) (fun _ => .null))))]))
  refine OGo.st (fun _ k_ => XS.astore X136.here hx rfl (hb hby at_189) rfl hrv136 (l' := #[.val (.int p1), .val (.int p2), .val (.int p3), .val (.ref bz1), .val (.ref bz8), .val (.int (0 : Int32)), .val (.int sl21), .val (.ref bz27), .val (.ref bz40), .val (.ref bz55), .val (.ref bz72), .val (.int ks), .val (own_pr (((p3.toUInt32 >>> ((2 : Int32) &&& 31).toUInt32).toInt32) &&& (3 : Int32)) bz27 bz40), .val (.int ks2), .val (own_pr (((p3.toUInt32 >>> ((6 : Int32) &&& 31).toUInt32).toInt32) &&& (3 : Int32)) bz27 bz40), .val (.int qs), .val (own_pr (((p3.toUInt32 >>> ((10 : Int32) &&& 31).toUInt32).toInt32) &&& (3 : Int32)) bz27 bz40), .val (own_val qs (own_pr (((p3.toUInt32 >>> ((10 : Int32) &&& 31).toUInt32).toInt32) &&& (3 : Int32)) bz27 bz40) (fun _ => .null) (fun _ => .null)), .val (own_val qs (own_pr (((p3.toUInt32 >>> ((10 : Int32) &&& 31).toUInt32).toInt32) &&& (3 : Int32)) bz27 bz40) (own_kp ks2 (own_pr (((p3.toUInt32 >>> ((6 : Int32) &&& 31).toUInt32).toInt32) &&& (3 : Int32)) bz27 bz40) (own_kp ks (own_pr (((p3.toUInt32 >>> ((2 : Int32) &&& 31).toUInt32).toInt32) &&& (3 : Int32)) bz27 bz40) (fun _ => .null))) (own_kp ks2 (.ref bz72) (own_kp ks (.ref bz55) (fun _ => .null)))), .unset]) (XS.store1 rfl (Or.inl rfl) (XT.cat1 hrv136)) k_) ?_
  show OGo p.tables e below _ (T136.setTop (mkF m 191 #[.val (.int p1), .val (.int p2), .val (.int p3), .val (.ref bz1), .val (.ref bz8), .val (.int (0 : Int32)), .val (.int sl21), .val (.ref bz27), .val (.ref bz40), .val (.ref bz55), .val (.ref bz72), .val (.int ks), .val (own_pr (((p3.toUInt32 >>> ((2 : Int32) &&& 31).toUInt32).toInt32) &&& (3 : Int32)) bz27 bz40), .val (.int ks2), .val (own_pr (((p3.toUInt32 >>> ((6 : Int32) &&& 31).toUInt32).toInt32) &&& (3 : Int32)) bz27 bz40), .val (.int qs), .val (own_pr (((p3.toUInt32 >>> ((10 : Int32) &&& 31).toUInt32).toInt32) &&& (3 : Int32)) bz27 bz40), .val (own_val qs (own_pr (((p3.toUInt32 >>> ((10 : Int32) &&& 31).toUInt32).toInt32) &&& (3 : Int32)) bz27 bz40) (fun _ => .null) (fun _ => .null)), .val (own_val qs (own_pr (((p3.toUInt32 >>> ((10 : Int32) &&& 31).toUInt32).toInt32) &&& (3 : Int32)) bz27 bz40) (own_kp ks2 (own_pr (((p3.toUInt32 >>> ((6 : Int32) &&& 31).toUInt32).toInt32) &&& (3 : Int32)) bz27 bz40) (own_kp ks (own_pr (((p3.toUInt32 >>> ((2 : Int32) &&& 31).toUInt32).toInt32) &&& (3 : Int32)) bz27 bz40) (fun _ => .null))) (own_kp ks2 (.ref bz72) (own_kp ks (.ref bz55) (fun _ => .null)))), .unset] []))
  refine OGo.st (fun _ k_ => XS.aconstNull X136.here hx rfl (hb hby at_191) k_) ?_
  show OGo p.tables e below _ (T136.setTop (mkF m 192 #[.val (.int p1), .val (.int p2), .val (.int p3), .val (.ref bz1), .val (.ref bz8), .val (.int (0 : Int32)), .val (.int sl21), .val (.ref bz27), .val (.ref bz40), .val (.ref bz55), .val (.ref bz72), .val (.int ks), .val (own_pr (((p3.toUInt32 >>> ((2 : Int32) &&& 31).toUInt32).toInt32) &&& (3 : Int32)) bz27 bz40), .val (.int ks2), .val (own_pr (((p3.toUInt32 >>> ((6 : Int32) &&& 31).toUInt32).toInt32) &&& (3 : Int32)) bz27 bz40), .val (.int qs), .val (own_pr (((p3.toUInt32 >>> ((10 : Int32) &&& 31).toUInt32).toInt32) &&& (3 : Int32)) bz27 bz40), .val (own_val qs (own_pr (((p3.toUInt32 >>> ((10 : Int32) &&& 31).toUInt32).toInt32) &&& (3 : Int32)) bz27 bz40) (fun _ => .null) (fun _ => .null)), .val (own_val qs (own_pr (((p3.toUInt32 >>> ((10 : Int32) &&& 31).toUInt32).toInt32) &&& (3 : Int32)) bz27 bz40) (own_kp ks2 (own_pr (((p3.toUInt32 >>> ((6 : Int32) &&& 31).toUInt32).toInt32) &&& (3 : Int32)) bz27 bz40) (own_kp ks (own_pr (((p3.toUInt32 >>> ((2 : Int32) &&& 31).toUInt32).toInt32) &&& (3 : Int32)) bz27 bz40) (fun _ => .null))) (own_kp ks2 (.ref bz72) (own_kp ks (.ref bz55) (fun _ => .null)))), .unset] [.null]))
  refine OGo.st (fun _ k_ => XS.astore X136.here hx rfl (hb hby at_192) rfl rfl (l' := #[.val (.int p1), .val (.int p2), .val (.int p3), .val (.ref bz1), .val (.ref bz8), .val (.int (0 : Int32)), .val (.int sl21), .val (.ref bz27), .val (.ref bz40), .val (.ref bz55), .val (.ref bz72), .val (.int ks), .val (own_pr (((p3.toUInt32 >>> ((2 : Int32) &&& 31).toUInt32).toInt32) &&& (3 : Int32)) bz27 bz40), .val (.int ks2), .val (own_pr (((p3.toUInt32 >>> ((6 : Int32) &&& 31).toUInt32).toInt32) &&& (3 : Int32)) bz27 bz40), .val (.int qs), .val (own_pr (((p3.toUInt32 >>> ((10 : Int32) &&& 31).toUInt32).toInt32) &&& (3 : Int32)) bz27 bz40), .val (own_val qs (own_pr (((p3.toUInt32 >>> ((10 : Int32) &&& 31).toUInt32).toInt32) &&& (3 : Int32)) bz27 bz40) (fun _ => .null) (fun _ => .null)), .val (own_val qs (own_pr (((p3.toUInt32 >>> ((10 : Int32) &&& 31).toUInt32).toInt32) &&& (3 : Int32)) bz27 bz40) (own_kp ks2 (own_pr (((p3.toUInt32 >>> ((6 : Int32) &&& 31).toUInt32).toInt32) &&& (3 : Int32)) bz27 bz40) (own_kp ks (own_pr (((p3.toUInt32 >>> ((2 : Int32) &&& 31).toUInt32).toInt32) &&& (3 : Int32)) bz27 bz40) (fun _ => .null))) (own_kp ks2 (.ref bz72) (own_kp ks (.ref bz55) (fun _ => .null)))), .val .null]) rfl k_) ?_
  obtain ⟨ex, hvz137, st137⟩ : ∃ ex : Value, ex = (if qs = (-1 : Int32) then .null else (if ks2 = (-1 : Int32) then (if ks = (-1 : Int32) then .null else (if qs = ks then (if (own_pr (((p3.toUInt32 >>> ((10 : Int32) &&& 31).toUInt32).toInt32) &&& (3 : Int32)) bz27 bz40) = (own_pr (((p3.toUInt32 >>> ((2 : Int32) &&& 31).toUInt32).toInt32) &&& (3 : Int32)) bz27 bz40) then (.ref bz55) else .null) else .null)) else (if qs = ks2 then (if (own_pr (((p3.toUInt32 >>> ((10 : Int32) &&& 31).toUInt32).toInt32) &&& (3 : Int32)) bz27 bz40) = (own_pr (((p3.toUInt32 >>> ((6 : Int32) &&& 31).toUInt32).toInt32) &&& (3 : Int32)) bz27 bz40) then (.ref bz72) else .null) else (if ks = (-1 : Int32) then .null else (if qs = ks then (if (own_pr (((p3.toUInt32 >>> ((10 : Int32) &&& 31).toUInt32).toInt32) &&& (3 : Int32)) bz27 bz40) = (own_pr (((p3.toUInt32 >>> ((2 : Int32) &&& 31).toUInt32).toInt32) &&& (3 : Int32)) bz27 bz40) then (.ref bz55) else .null) else .null))))) ∧ ∀ t, Steps p.tables e below (T136.setTop (mkF m 259 #[.val (.int p1), .val (.int p2), .val (.int p3), .val (.ref bz1), .val (.ref bz8), .val (.int (0 : Int32)), .val (.int sl21), .val (.ref bz27), .val (.ref bz40), .val (.ref bz55), .val (.ref bz72), .val (.int ks), .val (own_pr (((p3.toUInt32 >>> ((2 : Int32) &&& 31).toUInt32).toInt32) &&& (3 : Int32)) bz27 bz40), .val (.int ks2), .val (own_pr (((p3.toUInt32 >>> ((6 : Int32) &&& 31).toUInt32).toInt32) &&& (3 : Int32)) bz27 bz40), .val (.int qs), .val (own_pr (((p3.toUInt32 >>> ((10 : Int32) &&& 31).toUInt32).toInt32) &&& (3 : Int32)) bz27 bz40), .val (own_val qs (own_pr (((p3.toUInt32 >>> ((10 : Int32) &&& 31).toUInt32).toInt32) &&& (3 : Int32)) bz27 bz40) (fun _ => .null) (fun _ => .null)), .val (own_val qs (own_pr (((p3.toUInt32 >>> ((10 : Int32) &&& 31).toUInt32).toInt32) &&& (3 : Int32)) bz27 bz40) (own_kp ks2 (own_pr (((p3.toUInt32 >>> ((6 : Int32) &&& 31).toUInt32).toInt32) &&& (3 : Int32)) bz27 bz40) (own_kp ks (own_pr (((p3.toUInt32 >>> ((2 : Int32) &&& 31).toUInt32).toInt32) &&& (3 : Int32)) bz27 bz40) (fun _ => .null))) (own_kp ks2 (.ref bz72) (own_kp ks (.ref bz55) (fun _ => .null)))), .val ex] [])) t → Steps p.tables e below (T136.setTop (mkF m 194 #[.val (.int p1), .val (.int p2), .val (.int p3), .val (.ref bz1), .val (.ref bz8), .val (.int (0 : Int32)), .val (.int sl21), .val (.ref bz27), .val (.ref bz40), .val (.ref bz55), .val (.ref bz72), .val (.int ks), .val (own_pr (((p3.toUInt32 >>> ((2 : Int32) &&& 31).toUInt32).toInt32) &&& (3 : Int32)) bz27 bz40), .val (.int ks2), .val (own_pr (((p3.toUInt32 >>> ((6 : Int32) &&& 31).toUInt32).toInt32) &&& (3 : Int32)) bz27 bz40), .val (.int qs), .val (own_pr (((p3.toUInt32 >>> ((10 : Int32) &&& 31).toUInt32).toInt32) &&& (3 : Int32)) bz27 bz40), .val (own_val qs (own_pr (((p3.toUInt32 >>> ((10 : Int32) &&& 31).toUInt32).toInt32) &&& (3 : Int32)) bz27 bz40) (fun _ => .null) (fun _ => .null)), .val (own_val qs (own_pr (((p3.toUInt32 >>> ((10 : Int32) &&& 31).toUInt32).toInt32) &&& (3 : Int32)) bz27 bz40) (own_kp ks2 (own_pr (((p3.toUInt32 >>> ((6 : Int32) &&& 31).toUInt32).toInt32) &&& (3 : Int32)) bz27 bz40) (own_kp ks (own_pr (((p3.toUInt32 >>> ((2 : Int32) &&& 31).toUInt32).toInt32) &&& (3 : Int32)) bz27 bz40) (fun _ => .null))) (own_kp ks2 (.ref bz72) (own_kp ks (.ref bz55) (fun _ => .null)))), .val .null] [])) t := by
    refine ⟨_, rfl, fun t k => ?_⟩
    show Steps p.tables e below (T136.setTop (mkF m 194 #[.val (.int p1), .val (.int p2), .val (.int p3), .val (.ref bz1), .val (.ref bz8), .val (.int (0 : Int32)), .val (.int sl21), .val (.ref bz27), .val (.ref bz40), .val (.ref bz55), .val (.ref bz72), .val (.int ks), .val (own_pr (((p3.toUInt32 >>> ((2 : Int32) &&& 31).toUInt32).toInt32) &&& (3 : Int32)) bz27 bz40), .val (.int ks2), .val (own_pr (((p3.toUInt32 >>> ((6 : Int32) &&& 31).toUInt32).toInt32) &&& (3 : Int32)) bz27 bz40), .val (.int qs), .val (own_pr (((p3.toUInt32 >>> ((10 : Int32) &&& 31).toUInt32).toInt32) &&& (3 : Int32)) bz27 bz40), .val (own_val qs (own_pr (((p3.toUInt32 >>> ((10 : Int32) &&& 31).toUInt32).toInt32) &&& (3 : Int32)) bz27 bz40) (fun _ => .null) (fun _ => .null)), .val (own_val qs (own_pr (((p3.toUInt32 >>> ((10 : Int32) &&& 31).toUInt32).toInt32) &&& (3 : Int32)) bz27 bz40) (own_kp ks2 (own_pr (((p3.toUInt32 >>> ((6 : Int32) &&& 31).toUInt32).toInt32) &&& (3 : Int32)) bz27 bz40) (own_kp ks (own_pr (((p3.toUInt32 >>> ((2 : Int32) &&& 31).toUInt32).toInt32) &&& (3 : Int32)) bz27 bz40) (fun _ => .null))) (own_kp ks2 (.ref bz72) (own_kp ks (.ref bz55) (fun _ => .null)))), .val .null] [])) _
    refine XS.iload X136.here hx rfl (hb hby at_194) rfl ?_
    show Steps p.tables e below (T136.setTop (mkF m 196 #[.val (.int p1), .val (.int p2), .val (.int p3), .val (.ref bz1), .val (.ref bz8), .val (.int (0 : Int32)), .val (.int sl21), .val (.ref bz27), .val (.ref bz40), .val (.ref bz55), .val (.ref bz72), .val (.int ks), .val (own_pr (((p3.toUInt32 >>> ((2 : Int32) &&& 31).toUInt32).toInt32) &&& (3 : Int32)) bz27 bz40), .val (.int ks2), .val (own_pr (((p3.toUInt32 >>> ((6 : Int32) &&& 31).toUInt32).toInt32) &&& (3 : Int32)) bz27 bz40), .val (.int qs), .val (own_pr (((p3.toUInt32 >>> ((10 : Int32) &&& 31).toUInt32).toInt32) &&& (3 : Int32)) bz27 bz40), .val (own_val qs (own_pr (((p3.toUInt32 >>> ((10 : Int32) &&& 31).toUInt32).toInt32) &&& (3 : Int32)) bz27 bz40) (fun _ => .null) (fun _ => .null)), .val (own_val qs (own_pr (((p3.toUInt32 >>> ((10 : Int32) &&& 31).toUInt32).toInt32) &&& (3 : Int32)) bz27 bz40) (own_kp ks2 (own_pr (((p3.toUInt32 >>> ((6 : Int32) &&& 31).toUInt32).toInt32) &&& (3 : Int32)) bz27 bz40) (own_kp ks (own_pr (((p3.toUInt32 >>> ((2 : Int32) &&& 31).toUInt32).toInt32) &&& (3 : Int32)) bz27 bz40) (fun _ => .null))) (own_kp ks2 (.ref bz72) (own_kp ks (.ref bz55) (fun _ => .null)))), .val .null] [(.int qs)])) _
    refine XS.iconst X136.here hx rfl (hb hby at_196) ?_
    show Steps p.tables e below (T136.setTop (mkF m 197 #[.val (.int p1), .val (.int p2), .val (.int p3), .val (.ref bz1), .val (.ref bz8), .val (.int (0 : Int32)), .val (.int sl21), .val (.ref bz27), .val (.ref bz40), .val (.ref bz55), .val (.ref bz72), .val (.int ks), .val (own_pr (((p3.toUInt32 >>> ((2 : Int32) &&& 31).toUInt32).toInt32) &&& (3 : Int32)) bz27 bz40), .val (.int ks2), .val (own_pr (((p3.toUInt32 >>> ((6 : Int32) &&& 31).toUInt32).toInt32) &&& (3 : Int32)) bz27 bz40), .val (.int qs), .val (own_pr (((p3.toUInt32 >>> ((10 : Int32) &&& 31).toUInt32).toInt32) &&& (3 : Int32)) bz27 bz40), .val (own_val qs (own_pr (((p3.toUInt32 >>> ((10 : Int32) &&& 31).toUInt32).toInt32) &&& (3 : Int32)) bz27 bz40) (fun _ => .null) (fun _ => .null)), .val (own_val qs (own_pr (((p3.toUInt32 >>> ((10 : Int32) &&& 31).toUInt32).toInt32) &&& (3 : Int32)) bz27 bz40) (own_kp ks2 (own_pr (((p3.toUInt32 >>> ((6 : Int32) &&& 31).toUInt32).toInt32) &&& (3 : Int32)) bz27 bz40) (own_kp ks (own_pr (((p3.toUInt32 >>> ((2 : Int32) &&& 31).toUInt32).toInt32) &&& (3 : Int32)) bz27 bz40) (fun _ => .null))) (own_kp ks2 (.ref bz72) (own_kp ks (.ref bz55) (fun _ => .null)))), .val .null] [(.int (-1 : Int32)), (.int qs)])) _
    by_cases hs197 : qs = (-1 : Int32)
    · rw [if_pos hs197] at k
      refine XS.icmpYes X136.here hx rfl (pc0 := 197) (pc' := 259) rfl (hb hby at_197) rfl (XT.ii_eq_t hs197) (by decide) (by decide) ?_
      exact k
    · rw [if_neg hs197] at k
      refine XS.icmpNo X136.here hx rfl (hb hby at_197) rfl (XT.ii_eq_f hs197) ?_
      show Steps p.tables e below (T136.setTop (mkF m 200 #[.val (.int p1), .val (.int p2), .val (.int p3), .val (.ref bz1), .val (.ref bz8), .val (.int (0 : Int32)), .val (.int sl21), .val (.ref bz27), .val (.ref bz40), .val (.ref bz55), .val (.ref bz72), .val (.int ks), .val (own_pr (((p3.toUInt32 >>> ((2 : Int32) &&& 31).toUInt32).toInt32) &&& (3 : Int32)) bz27 bz40), .val (.int ks2), .val (own_pr (((p3.toUInt32 >>> ((6 : Int32) &&& 31).toUInt32).toInt32) &&& (3 : Int32)) bz27 bz40), .val (.int qs), .val (own_pr (((p3.toUInt32 >>> ((10 : Int32) &&& 31).toUInt32).toInt32) &&& (3 : Int32)) bz27 bz40), .val (own_val qs (own_pr (((p3.toUInt32 >>> ((10 : Int32) &&& 31).toUInt32).toInt32) &&& (3 : Int32)) bz27 bz40) (fun _ => .null) (fun _ => .null)), .val (own_val qs (own_pr (((p3.toUInt32 >>> ((10 : Int32) &&& 31).toUInt32).toInt32) &&& (3 : Int32)) bz27 bz40) (own_kp ks2 (own_pr (((p3.toUInt32 >>> ((6 : Int32) &&& 31).toUInt32).toInt32) &&& (3 : Int32)) bz27 bz40) (own_kp ks (own_pr (((p3.toUInt32 >>> ((2 : Int32) &&& 31).toUInt32).toInt32) &&& (3 : Int32)) bz27 bz40) (fun _ => .null))) (own_kp ks2 (.ref bz72) (own_kp ks (.ref bz55) (fun _ => .null)))), .val .null] [])) _
      refine XS.iload X136.here hx rfl (hb hby at_200) rfl ?_
      show Steps p.tables e below (T136.setTop (mkF m 202 #[.val (.int p1), .val (.int p2), .val (.int p3), .val (.ref bz1), .val (.ref bz8), .val (.int (0 : Int32)), .val (.int sl21), .val (.ref bz27), .val (.ref bz40), .val (.ref bz55), .val (.ref bz72), .val (.int ks), .val (own_pr (((p3.toUInt32 >>> ((2 : Int32) &&& 31).toUInt32).toInt32) &&& (3 : Int32)) bz27 bz40), .val (.int ks2), .val (own_pr (((p3.toUInt32 >>> ((6 : Int32) &&& 31).toUInt32).toInt32) &&& (3 : Int32)) bz27 bz40), .val (.int qs), .val (own_pr (((p3.toUInt32 >>> ((10 : Int32) &&& 31).toUInt32).toInt32) &&& (3 : Int32)) bz27 bz40), .val (own_val qs (own_pr (((p3.toUInt32 >>> ((10 : Int32) &&& 31).toUInt32).toInt32) &&& (3 : Int32)) bz27 bz40) (fun _ => .null) (fun _ => .null)), .val (own_val qs (own_pr (((p3.toUInt32 >>> ((10 : Int32) &&& 31).toUInt32).toInt32) &&& (3 : Int32)) bz27 bz40) (own_kp ks2 (own_pr (((p3.toUInt32 >>> ((6 : Int32) &&& 31).toUInt32).toInt32) &&& (3 : Int32)) bz27 bz40) (own_kp ks (own_pr (((p3.toUInt32 >>> ((2 : Int32) &&& 31).toUInt32).toInt32) &&& (3 : Int32)) bz27 bz40) (fun _ => .null))) (own_kp ks2 (.ref bz72) (own_kp ks (.ref bz55) (fun _ => .null)))), .val .null] [(.int ks2)])) _
      refine XS.iconst X136.here hx rfl (hb hby at_202) ?_
      show Steps p.tables e below (T136.setTop (mkF m 203 #[.val (.int p1), .val (.int p2), .val (.int p3), .val (.ref bz1), .val (.ref bz8), .val (.int (0 : Int32)), .val (.int sl21), .val (.ref bz27), .val (.ref bz40), .val (.ref bz55), .val (.ref bz72), .val (.int ks), .val (own_pr (((p3.toUInt32 >>> ((2 : Int32) &&& 31).toUInt32).toInt32) &&& (3 : Int32)) bz27 bz40), .val (.int ks2), .val (own_pr (((p3.toUInt32 >>> ((6 : Int32) &&& 31).toUInt32).toInt32) &&& (3 : Int32)) bz27 bz40), .val (.int qs), .val (own_pr (((p3.toUInt32 >>> ((10 : Int32) &&& 31).toUInt32).toInt32) &&& (3 : Int32)) bz27 bz40), .val (own_val qs (own_pr (((p3.toUInt32 >>> ((10 : Int32) &&& 31).toUInt32).toInt32) &&& (3 : Int32)) bz27 bz40) (fun _ => .null) (fun _ => .null)), .val (own_val qs (own_pr (((p3.toUInt32 >>> ((10 : Int32) &&& 31).toUInt32).toInt32) &&& (3 : Int32)) bz27 bz40) (own_kp ks2 (own_pr (((p3.toUInt32 >>> ((6 : Int32) &&& 31).toUInt32).toInt32) &&& (3 : Int32)) bz27 bz40) (own_kp ks (own_pr (((p3.toUInt32 >>> ((2 : Int32) &&& 31).toUInt32).toInt32) &&& (3 : Int32)) bz27 bz40) (fun _ => .null))) (own_kp ks2 (.ref bz72) (own_kp ks (.ref bz55) (fun _ => .null)))), .val .null] [(.int (-1 : Int32)), (.int ks2)])) _
      by_cases hs203 : ks2 = (-1 : Int32)
      · rw [if_pos hs203] at k
        refine XS.icmpYes X136.here hx rfl (pc0 := 203) (pc' := 231) rfl (hb hby at_203) rfl (XT.ii_eq_t hs203) (by decide) (by decide) ?_
        show Steps p.tables e below (T136.setTop (mkF m 231 #[.val (.int p1), .val (.int p2), .val (.int p3), .val (.ref bz1), .val (.ref bz8), .val (.int (0 : Int32)), .val (.int sl21), .val (.ref bz27), .val (.ref bz40), .val (.ref bz55), .val (.ref bz72), .val (.int ks), .val (own_pr (((p3.toUInt32 >>> ((2 : Int32) &&& 31).toUInt32).toInt32) &&& (3 : Int32)) bz27 bz40), .val (.int ks2), .val (own_pr (((p3.toUInt32 >>> ((6 : Int32) &&& 31).toUInt32).toInt32) &&& (3 : Int32)) bz27 bz40), .val (.int qs), .val (own_pr (((p3.toUInt32 >>> ((10 : Int32) &&& 31).toUInt32).toInt32) &&& (3 : Int32)) bz27 bz40), .val (own_val qs (own_pr (((p3.toUInt32 >>> ((10 : Int32) &&& 31).toUInt32).toInt32) &&& (3 : Int32)) bz27 bz40) (fun _ => .null) (fun _ => .null)), .val (own_val qs (own_pr (((p3.toUInt32 >>> ((10 : Int32) &&& 31).toUInt32).toInt32) &&& (3 : Int32)) bz27 bz40) (own_kp ks2 (own_pr (((p3.toUInt32 >>> ((6 : Int32) &&& 31).toUInt32).toInt32) &&& (3 : Int32)) bz27 bz40) (own_kp ks (own_pr (((p3.toUInt32 >>> ((2 : Int32) &&& 31).toUInt32).toInt32) &&& (3 : Int32)) bz27 bz40) (fun _ => .null))) (own_kp ks2 (.ref bz72) (own_kp ks (.ref bz55) (fun _ => .null)))), .val .null] [])) _
        refine XS.iload X136.here hx rfl (hb hby at_231) rfl ?_
        show Steps p.tables e below (T136.setTop (mkF m 233 #[.val (.int p1), .val (.int p2), .val (.int p3), .val (.ref bz1), .val (.ref bz8), .val (.int (0 : Int32)), .val (.int sl21), .val (.ref bz27), .val (.ref bz40), .val (.ref bz55), .val (.ref bz72), .val (.int ks), .val (own_pr (((p3.toUInt32 >>> ((2 : Int32) &&& 31).toUInt32).toInt32) &&& (3 : Int32)) bz27 bz40), .val (.int ks2), .val (own_pr (((p3.toUInt32 >>> ((6 : Int32) &&& 31).toUInt32).toInt32) &&& (3 : Int32)) bz27 bz40), .val (.int qs), .val (own_pr (((p3.toUInt32 >>> ((10 : Int32) &&& 31).toUInt32).toInt32) &&& (3 : Int32)) bz27 bz40), .val (own_val qs (own_pr (((p3.toUInt32 >>> ((10 : Int32) &&& 31).toUInt32).toInt32) &&& (3 : Int32)) bz27 bz40) (fun _ => .null) (fun _ => .null)), .val (own_val qs (own_pr (((p3.toUInt32 >>> ((10 : Int32) &&& 31).toUInt32).toInt32) &&& (3 : Int32)) bz27 bz40) (own_kp ks2 (own_pr (((p3.toUInt32 >>> ((6 : Int32) &&& 31).toUInt32).toInt32) &&& (3 : Int32)) bz27 bz40) (own_kp ks (own_pr (((p3.toUInt32 >>> ((2 : Int32) &&& 31).toUInt32).toInt32) &&& (3 : Int32)) bz27 bz40) (fun _ => .null))) (own_kp ks2 (.ref bz72) (own_kp ks (.ref bz55) (fun _ => .null)))), .val .null] [(.int ks)])) _
        refine XS.iconst X136.here hx rfl (hb hby at_233) ?_
        show Steps p.tables e below (T136.setTop (mkF m 234 #[.val (.int p1), .val (.int p2), .val (.int p3), .val (.ref bz1), .val (.ref bz8), .val (.int (0 : Int32)), .val (.int sl21), .val (.ref bz27), .val (.ref bz40), .val (.ref bz55), .val (.ref bz72), .val (.int ks), .val (own_pr (((p3.toUInt32 >>> ((2 : Int32) &&& 31).toUInt32).toInt32) &&& (3 : Int32)) bz27 bz40), .val (.int ks2), .val (own_pr (((p3.toUInt32 >>> ((6 : Int32) &&& 31).toUInt32).toInt32) &&& (3 : Int32)) bz27 bz40), .val (.int qs), .val (own_pr (((p3.toUInt32 >>> ((10 : Int32) &&& 31).toUInt32).toInt32) &&& (3 : Int32)) bz27 bz40), .val (own_val qs (own_pr (((p3.toUInt32 >>> ((10 : Int32) &&& 31).toUInt32).toInt32) &&& (3 : Int32)) bz27 bz40) (fun _ => .null) (fun _ => .null)), .val (own_val qs (own_pr (((p3.toUInt32 >>> ((10 : Int32) &&& 31).toUInt32).toInt32) &&& (3 : Int32)) bz27 bz40) (own_kp ks2 (own_pr (((p3.toUInt32 >>> ((6 : Int32) &&& 31).toUInt32).toInt32) &&& (3 : Int32)) bz27 bz40) (own_kp ks (own_pr (((p3.toUInt32 >>> ((2 : Int32) &&& 31).toUInt32).toInt32) &&& (3 : Int32)) bz27 bz40) (fun _ => .null))) (own_kp ks2 (.ref bz72) (own_kp ks (.ref bz55) (fun _ => .null)))), .val .null] [(.int (-1 : Int32)), (.int ks)])) _
        by_cases hs234 : ks = (-1 : Int32)
        · rw [if_pos hs234] at k
          refine XS.icmpYes X136.here hx rfl (pc0 := 234) (pc' := 259) rfl (hb hby at_234) rfl (XT.ii_eq_t hs234) (by decide) (by decide) ?_
          exact k
        · rw [if_neg hs234] at k
          refine XS.icmpNo X136.here hx rfl (hb hby at_234) rfl (XT.ii_eq_f hs234) ?_
          show Steps p.tables e below (T136.setTop (mkF m 237 #[.val (.int p1), .val (.int p2), .val (.int p3), .val (.ref bz1), .val (.ref bz8), .val (.int (0 : Int32)), .val (.int sl21), .val (.ref bz27), .val (.ref bz40), .val (.ref bz55), .val (.ref bz72), .val (.int ks), .val (own_pr (((p3.toUInt32 >>> ((2 : Int32) &&& 31).toUInt32).toInt32) &&& (3 : Int32)) bz27 bz40), .val (.int ks2), .val (own_pr (((p3.toUInt32 >>> ((6 : Int32) &&& 31).toUInt32).toInt32) &&& (3 : Int32)) bz27 bz40), .val (.int qs), .val (own_pr (((p3.toUInt32 >>> ((10 : Int32) &&& 31).toUInt32).toInt32) &&& (3 : Int32)) bz27 bz40), .val (own_val qs (own_pr (((p3.toUInt32 >>> ((10 : Int32) &&& 31).toUInt32).toInt32) &&& (3 : Int32)) bz27 bz40) (fun _ => .null) (fun _ => .null)), .val (own_val qs (own_pr (((p3.toUInt32 >>> ((10 : Int32) &&& 31).toUInt32).toInt32) &&& (3 : Int32)) bz27 bz40) (own_kp ks2 (own_pr (((p3.toUInt32 >>> ((6 : Int32) &&& 31).toUInt32).toInt32) &&& (3 : Int32)) bz27 bz40) (own_kp ks (own_pr (((p3.toUInt32 >>> ((2 : Int32) &&& 31).toUInt32).toInt32) &&& (3 : Int32)) bz27 bz40) (fun _ => .null))) (own_kp ks2 (.ref bz72) (own_kp ks (.ref bz55) (fun _ => .null)))), .val .null] [])) _
          refine XS.iload X136.here hx rfl (hb hby at_237) rfl ?_
          show Steps p.tables e below (T136.setTop (mkF m 239 #[.val (.int p1), .val (.int p2), .val (.int p3), .val (.ref bz1), .val (.ref bz8), .val (.int (0 : Int32)), .val (.int sl21), .val (.ref bz27), .val (.ref bz40), .val (.ref bz55), .val (.ref bz72), .val (.int ks), .val (own_pr (((p3.toUInt32 >>> ((2 : Int32) &&& 31).toUInt32).toInt32) &&& (3 : Int32)) bz27 bz40), .val (.int ks2), .val (own_pr (((p3.toUInt32 >>> ((6 : Int32) &&& 31).toUInt32).toInt32) &&& (3 : Int32)) bz27 bz40), .val (.int qs), .val (own_pr (((p3.toUInt32 >>> ((10 : Int32) &&& 31).toUInt32).toInt32) &&& (3 : Int32)) bz27 bz40), .val (own_val qs (own_pr (((p3.toUInt32 >>> ((10 : Int32) &&& 31).toUInt32).toInt32) &&& (3 : Int32)) bz27 bz40) (fun _ => .null) (fun _ => .null)), .val (own_val qs (own_pr (((p3.toUInt32 >>> ((10 : Int32) &&& 31).toUInt32).toInt32) &&& (3 : Int32)) bz27 bz40) (own_kp ks2 (own_pr (((p3.toUInt32 >>> ((6 : Int32) &&& 31).toUInt32).toInt32) &&& (3 : Int32)) bz27 bz40) (own_kp ks (own_pr (((p3.toUInt32 >>> ((2 : Int32) &&& 31).toUInt32).toInt32) &&& (3 : Int32)) bz27 bz40) (fun _ => .null))) (own_kp ks2 (.ref bz72) (own_kp ks (.ref bz55) (fun _ => .null)))), .val .null] [(.int qs)])) _
          refine XS.iload X136.here hx rfl (hb hby at_239) rfl ?_
          show Steps p.tables e below (T136.setTop (mkF m 241 #[.val (.int p1), .val (.int p2), .val (.int p3), .val (.ref bz1), .val (.ref bz8), .val (.int (0 : Int32)), .val (.int sl21), .val (.ref bz27), .val (.ref bz40), .val (.ref bz55), .val (.ref bz72), .val (.int ks), .val (own_pr (((p3.toUInt32 >>> ((2 : Int32) &&& 31).toUInt32).toInt32) &&& (3 : Int32)) bz27 bz40), .val (.int ks2), .val (own_pr (((p3.toUInt32 >>> ((6 : Int32) &&& 31).toUInt32).toInt32) &&& (3 : Int32)) bz27 bz40), .val (.int qs), .val (own_pr (((p3.toUInt32 >>> ((10 : Int32) &&& 31).toUInt32).toInt32) &&& (3 : Int32)) bz27 bz40), .val (own_val qs (own_pr (((p3.toUInt32 >>> ((10 : Int32) &&& 31).toUInt32).toInt32) &&& (3 : Int32)) bz27 bz40) (fun _ => .null) (fun _ => .null)), .val (own_val qs (own_pr (((p3.toUInt32 >>> ((10 : Int32) &&& 31).toUInt32).toInt32) &&& (3 : Int32)) bz27 bz40) (own_kp ks2 (own_pr (((p3.toUInt32 >>> ((6 : Int32) &&& 31).toUInt32).toInt32) &&& (3 : Int32)) bz27 bz40) (own_kp ks (own_pr (((p3.toUInt32 >>> ((2 : Int32) &&& 31).toUInt32).toInt32) &&& (3 : Int32)) bz27 bz40) (fun _ => .null))) (own_kp ks2 (.ref bz72) (own_kp ks (.ref bz55) (fun _ => .null)))), .val .null] [(.int ks), (.int qs)])) _
          by_cases hs241 : qs = ks
          · rw [if_pos hs241] at k
            refine XS.icmpNo X136.here hx rfl (hb hby at_241) rfl (XT.ii_ne_f hs241) ?_
            show Steps p.tables e below (T136.setTop (mkF m 244 #[.val (.int p1), .val (.int p2), .val (.int p3), .val (.ref bz1), .val (.ref bz8), .val (.int (0 : Int32)), .val (.int sl21), .val (.ref bz27), .val (.ref bz40), .val (.ref bz55), .val (.ref bz72), .val (.int ks), .val (own_pr (((p3.toUInt32 >>> ((2 : Int32) &&& 31).toUInt32).toInt32) &&& (3 : Int32)) bz27 bz40), .val (.int ks2), .val (own_pr (((p3.toUInt32 >>> ((6 : Int32) &&& 31).toUInt32).toInt32) &&& (3 : Int32)) bz27 bz40), .val (.int qs), .val (own_pr (((p3.toUInt32 >>> ((10 : Int32) &&& 31).toUInt32).toInt32) &&& (3 : Int32)) bz27 bz40), .val (own_val qs (own_pr (((p3.toUInt32 >>> ((10 : Int32) &&& 31).toUInt32).toInt32) &&& (3 : Int32)) bz27 bz40) (fun _ => .null) (fun _ => .null)), .val (own_val qs (own_pr (((p3.toUInt32 >>> ((10 : Int32) &&& 31).toUInt32).toInt32) &&& (3 : Int32)) bz27 bz40) (own_kp ks2 (own_pr (((p3.toUInt32 >>> ((6 : Int32) &&& 31).toUInt32).toInt32) &&& (3 : Int32)) bz27 bz40) (own_kp ks (own_pr (((p3.toUInt32 >>> ((2 : Int32) &&& 31).toUInt32).toInt32) &&& (3 : Int32)) bz27 bz40) (fun _ => .null))) (own_kp ks2 (.ref bz72) (own_kp ks (.ref bz55) (fun _ => .null)))), .val .null] [])) _
            refine XS.aload X136.here hx rfl (hb hby at_244) rfl (own_prR _ _ _) ?_
            show Steps p.tables e below (T136.setTop (mkF m 246 #[.val (.int p1), .val (.int p2), .val (.int p3), .val (.ref bz1), .val (.ref bz8), .val (.int (0 : Int32)), .val (.int sl21), .val (.ref bz27), .val (.ref bz40), .val (.ref bz55), .val (.ref bz72), .val (.int ks), .val (own_pr (((p3.toUInt32 >>> ((2 : Int32) &&& 31).toUInt32).toInt32) &&& (3 : Int32)) bz27 bz40), .val (.int ks2), .val (own_pr (((p3.toUInt32 >>> ((6 : Int32) &&& 31).toUInt32).toInt32) &&& (3 : Int32)) bz27 bz40), .val (.int qs), .val (own_pr (((p3.toUInt32 >>> ((10 : Int32) &&& 31).toUInt32).toInt32) &&& (3 : Int32)) bz27 bz40), .val (own_val qs (own_pr (((p3.toUInt32 >>> ((10 : Int32) &&& 31).toUInt32).toInt32) &&& (3 : Int32)) bz27 bz40) (fun _ => .null) (fun _ => .null)), .val (own_val qs (own_pr (((p3.toUInt32 >>> ((10 : Int32) &&& 31).toUInt32).toInt32) &&& (3 : Int32)) bz27 bz40) (own_kp ks2 (own_pr (((p3.toUInt32 >>> ((6 : Int32) &&& 31).toUInt32).toInt32) &&& (3 : Int32)) bz27 bz40) (own_kp ks (own_pr (((p3.toUInt32 >>> ((2 : Int32) &&& 31).toUInt32).toInt32) &&& (3 : Int32)) bz27 bz40) (fun _ => .null))) (own_kp ks2 (.ref bz72) (own_kp ks (.ref bz55) (fun _ => .null)))), .val .null] [(own_pr (((p3.toUInt32 >>> ((10 : Int32) &&& 31).toUInt32).toInt32) &&& (3 : Int32)) bz27 bz40)])) _
            refine XS.aload X136.here hx rfl (hb hby at_246) rfl (own_prR _ _ _) ?_
            show Steps p.tables e below (T136.setTop (mkF m 248 #[.val (.int p1), .val (.int p2), .val (.int p3), .val (.ref bz1), .val (.ref bz8), .val (.int (0 : Int32)), .val (.int sl21), .val (.ref bz27), .val (.ref bz40), .val (.ref bz55), .val (.ref bz72), .val (.int ks), .val (own_pr (((p3.toUInt32 >>> ((2 : Int32) &&& 31).toUInt32).toInt32) &&& (3 : Int32)) bz27 bz40), .val (.int ks2), .val (own_pr (((p3.toUInt32 >>> ((6 : Int32) &&& 31).toUInt32).toInt32) &&& (3 : Int32)) bz27 bz40), .val (.int qs), .val (own_pr (((p3.toUInt32 >>> ((10 : Int32) &&& 31).toUInt32).toInt32) &&& (3 : Int32)) bz27 bz40), .val (own_val qs (own_pr (((p3.toUInt32 >>> ((10 : Int32) &&& 31).toUInt32).toInt32) &&& (3 : Int32)) bz27 bz40) (fun _ => .null) (fun _ => .null)), .val (own_val qs (own_pr (((p3.toUInt32 >>> ((10 : Int32) &&& 31).toUInt32).toInt32) &&& (3 : Int32)) bz27 bz40) (own_kp ks2 (own_pr (((p3.toUInt32 >>> ((6 : Int32) &&& 31).toUInt32).toInt32) &&& (3 : Int32)) bz27 bz40) (own_kp ks (own_pr (((p3.toUInt32 >>> ((2 : Int32) &&& 31).toUInt32).toInt32) &&& (3 : Int32)) bz27 bz40) (fun _ => .null))) (own_kp ks2 (.ref bz72) (own_kp ks (.ref bz55) (fun _ => .null)))), .val .null] [(own_pr (((p3.toUInt32 >>> ((2 : Int32) &&& 31).toUInt32).toInt32) &&& (3 : Int32)) bz27 bz40), (own_pr (((p3.toUInt32 >>> ((10 : Int32) &&& 31).toUInt32).toInt32) &&& (3 : Int32)) bz27 bz40)])) _
            by_cases hs248 : (own_pr (((p3.toUInt32 >>> ((10 : Int32) &&& 31).toUInt32).toInt32) &&& (3 : Int32)) bz27 bz40) = (own_pr (((p3.toUInt32 >>> ((2 : Int32) &&& 31).toUInt32).toInt32) &&& (3 : Int32)) bz27 bz40)
            · rw [if_pos hs248] at k
              refine XT.acmpNo X136.here hx rfl (hb hby at_248) rfl (own_prR _ _ _) (own_prR _ _ _) (XT.aa_ne_f hs248) ?_
              show Steps p.tables e below (T136.setTop (mkF m 251 #[.val (.int p1), .val (.int p2), .val (.int p3), .val (.ref bz1), .val (.ref bz8), .val (.int (0 : Int32)), .val (.int sl21), .val (.ref bz27), .val (.ref bz40), .val (.ref bz55), .val (.ref bz72), .val (.int ks), .val (own_pr (((p3.toUInt32 >>> ((2 : Int32) &&& 31).toUInt32).toInt32) &&& (3 : Int32)) bz27 bz40), .val (.int ks2), .val (own_pr (((p3.toUInt32 >>> ((6 : Int32) &&& 31).toUInt32).toInt32) &&& (3 : Int32)) bz27 bz40), .val (.int qs), .val (own_pr (((p3.toUInt32 >>> ((10 : Int32) &&& 31).toUInt32).toInt32) &&& (3 : Int32)) bz27 bz40), .val (own_val qs (own_pr (((p3.toUInt32 >>> ((10 : Int32) &&& 31).toUInt32).toInt32) &&& (3 : Int32)) bz27 bz40) (fun _ => .null) (fun _ => .null)), .val (own_val qs (own_pr (((p3.toUInt32 >>> ((10 : Int32) &&& 31).toUInt32).toInt32) &&& (3 : Int32)) bz27 bz40) (own_kp ks2 (own_pr (((p3.toUInt32 >>> ((6 : Int32) &&& 31).toUInt32).toInt32) &&& (3 : Int32)) bz27 bz40) (own_kp ks (own_pr (((p3.toUInt32 >>> ((2 : Int32) &&& 31).toUInt32).toInt32) &&& (3 : Int32)) bz27 bz40) (fun _ => .null))) (own_kp ks2 (.ref bz72) (own_kp ks (.ref bz55) (fun _ => .null)))), .val .null] [])) _
              refine XS.aload X136.here hx rfl (hb hby at_251) rfl rfl ?_
              show Steps p.tables e below (T136.setTop (mkF m 253 #[.val (.int p1), .val (.int p2), .val (.int p3), .val (.ref bz1), .val (.ref bz8), .val (.int (0 : Int32)), .val (.int sl21), .val (.ref bz27), .val (.ref bz40), .val (.ref bz55), .val (.ref bz72), .val (.int ks), .val (own_pr (((p3.toUInt32 >>> ((2 : Int32) &&& 31).toUInt32).toInt32) &&& (3 : Int32)) bz27 bz40), .val (.int ks2), .val (own_pr (((p3.toUInt32 >>> ((6 : Int32) &&& 31).toUInt32).toInt32) &&& (3 : Int32)) bz27 bz40), .val (.int qs), .val (own_pr (((p3.toUInt32 >>> ((10 : Int32) &&& 31).toUInt32).toInt32) &&& (3 : Int32)) bz27 bz40), .val (own_val qs (own_pr (((p3.toUInt32 >>> ((10 : Int32) &&& 31).toUInt32).toInt32) &&& (3 : Int32)) bz27 bz40) (fun _ => .null) (fun _ => .null)), .val (own_val qs (own_pr (((p3.toUInt32 >>> ((10 : Int32) &&& 31).toUInt32).toInt32) &&& (3 : Int32)) bz27 bz40) (own_kp ks2 (own_pr (((p3.toUInt32 >>> ((6 : Int32) &&& 31).toUInt32).toInt32) &&& (3 : Int32)) bz27 bz40) (own_kp ks (own_pr (((p3.toUInt32 >>> ((2 : Int32) &&& 31).toUInt32).toInt32) &&& (3 : Int32)) bz27 bz40) (fun _ => .null))) (own_kp ks2 (.ref bz72) (own_kp ks (.ref bz55) (fun _ => .null)))), .val .null] [(.ref bz55)])) _
              refine XS.goto X136.here hx rfl (pc0 := 253) (pc' := 257) rfl (hb hby at_253) (by decide) (by decide) ?_
              show Steps p.tables e below (T136.setTop (mkF m 257 #[.val (.int p1), .val (.int p2), .val (.int p3), .val (.ref bz1), .val (.ref bz8), .val (.int (0 : Int32)), .val (.int sl21), .val (.ref bz27), .val (.ref bz40), .val (.ref bz55), .val (.ref bz72), .val (.int ks), .val (own_pr (((p3.toUInt32 >>> ((2 : Int32) &&& 31).toUInt32).toInt32) &&& (3 : Int32)) bz27 bz40), .val (.int ks2), .val (own_pr (((p3.toUInt32 >>> ((6 : Int32) &&& 31).toUInt32).toInt32) &&& (3 : Int32)) bz27 bz40), .val (.int qs), .val (own_pr (((p3.toUInt32 >>> ((10 : Int32) &&& 31).toUInt32).toInt32) &&& (3 : Int32)) bz27 bz40), .val (own_val qs (own_pr (((p3.toUInt32 >>> ((10 : Int32) &&& 31).toUInt32).toInt32) &&& (3 : Int32)) bz27 bz40) (fun _ => .null) (fun _ => .null)), .val (own_val qs (own_pr (((p3.toUInt32 >>> ((10 : Int32) &&& 31).toUInt32).toInt32) &&& (3 : Int32)) bz27 bz40) (own_kp ks2 (own_pr (((p3.toUInt32 >>> ((6 : Int32) &&& 31).toUInt32).toInt32) &&& (3 : Int32)) bz27 bz40) (own_kp ks (own_pr (((p3.toUInt32 >>> ((2 : Int32) &&& 31).toUInt32).toInt32) &&& (3 : Int32)) bz27 bz40) (fun _ => .null))) (own_kp ks2 (.ref bz72) (own_kp ks (.ref bz55) (fun _ => .null)))), .val .null] [(.ref bz55)])) _
              refine XS.astore X136.here hx rfl (hb hby at_257) rfl rfl (l' := #[.val (.int p1), .val (.int p2), .val (.int p3), .val (.ref bz1), .val (.ref bz8), .val (.int (0 : Int32)), .val (.int sl21), .val (.ref bz27), .val (.ref bz40), .val (.ref bz55), .val (.ref bz72), .val (.int ks), .val (own_pr (((p3.toUInt32 >>> ((2 : Int32) &&& 31).toUInt32).toInt32) &&& (3 : Int32)) bz27 bz40), .val (.int ks2), .val (own_pr (((p3.toUInt32 >>> ((6 : Int32) &&& 31).toUInt32).toInt32) &&& (3 : Int32)) bz27 bz40), .val (.int qs), .val (own_pr (((p3.toUInt32 >>> ((10 : Int32) &&& 31).toUInt32).toInt32) &&& (3 : Int32)) bz27 bz40), .val (own_val qs (own_pr (((p3.toUInt32 >>> ((10 : Int32) &&& 31).toUInt32).toInt32) &&& (3 : Int32)) bz27 bz40) (fun _ => .null) (fun _ => .null)), .val (own_val qs (own_pr (((p3.toUInt32 >>> ((10 : Int32) &&& 31).toUInt32).toInt32) &&& (3 : Int32)) bz27 bz40) (own_kp ks2 (own_pr (((p3.toUInt32 >>> ((6 : Int32) &&& 31).toUInt32).toInt32) &&& (3 : Int32)) bz27 bz40) (own_kp ks (own_pr (((p3.toUInt32 >>> ((2 : Int32) &&& 31).toUInt32).toInt32) &&& (3 : Int32)) bz27 bz40) (fun _ => .null))) (own_kp ks2 (.ref bz72) (own_kp ks (.ref bz55) (fun _ => .null)))), .val (.ref bz55)]) rfl ?_
              exact k
            · rw [if_neg hs248] at k
              refine XT.acmpYes X136.here hx rfl (pc0 := 248) (pc' := 256) rfl (hb hby at_248) rfl (own_prR _ _ _) (own_prR _ _ _) (XT.aa_ne_t hs248) (by decide) (by decide) ?_
              show Steps p.tables e below (T136.setTop (mkF m 256 #[.val (.int p1), .val (.int p2), .val (.int p3), .val (.ref bz1), .val (.ref bz8), .val (.int (0 : Int32)), .val (.int sl21), .val (.ref bz27), .val (.ref bz40), .val (.ref bz55), .val (.ref bz72), .val (.int ks), .val (own_pr (((p3.toUInt32 >>> ((2 : Int32) &&& 31).toUInt32).toInt32) &&& (3 : Int32)) bz27 bz40), .val (.int ks2), .val (own_pr (((p3.toUInt32 >>> ((6 : Int32) &&& 31).toUInt32).toInt32) &&& (3 : Int32)) bz27 bz40), .val (.int qs), .val (own_pr (((p3.toUInt32 >>> ((10 : Int32) &&& 31).toUInt32).toInt32) &&& (3 : Int32)) bz27 bz40), .val (own_val qs (own_pr (((p3.toUInt32 >>> ((10 : Int32) &&& 31).toUInt32).toInt32) &&& (3 : Int32)) bz27 bz40) (fun _ => .null) (fun _ => .null)), .val (own_val qs (own_pr (((p3.toUInt32 >>> ((10 : Int32) &&& 31).toUInt32).toInt32) &&& (3 : Int32)) bz27 bz40) (own_kp ks2 (own_pr (((p3.toUInt32 >>> ((6 : Int32) &&& 31).toUInt32).toInt32) &&& (3 : Int32)) bz27 bz40) (own_kp ks (own_pr (((p3.toUInt32 >>> ((2 : Int32) &&& 31).toUInt32).toInt32) &&& (3 : Int32)) bz27 bz40) (fun _ => .null))) (own_kp ks2 (.ref bz72) (own_kp ks (.ref bz55) (fun _ => .null)))), .val .null] [])) _
              refine XS.aconstNull X136.here hx rfl (hb hby at_256) ?_
              show Steps p.tables e below (T136.setTop (mkF m 257 #[.val (.int p1), .val (.int p2), .val (.int p3), .val (.ref bz1), .val (.ref bz8), .val (.int (0 : Int32)), .val (.int sl21), .val (.ref bz27), .val (.ref bz40), .val (.ref bz55), .val (.ref bz72), .val (.int ks), .val (own_pr (((p3.toUInt32 >>> ((2 : Int32) &&& 31).toUInt32).toInt32) &&& (3 : Int32)) bz27 bz40), .val (.int ks2), .val (own_pr (((p3.toUInt32 >>> ((6 : Int32) &&& 31).toUInt32).toInt32) &&& (3 : Int32)) bz27 bz40), .val (.int qs), .val (own_pr (((p3.toUInt32 >>> ((10 : Int32) &&& 31).toUInt32).toInt32) &&& (3 : Int32)) bz27 bz40), .val (own_val qs (own_pr (((p3.toUInt32 >>> ((10 : Int32) &&& 31).toUInt32).toInt32) &&& (3 : Int32)) bz27 bz40) (fun _ => .null) (fun _ => .null)), .val (own_val qs (own_pr (((p3.toUInt32 >>> ((10 : Int32) &&& 31).toUInt32).toInt32) &&& (3 : Int32)) bz27 bz40) (own_kp ks2 (own_pr (((p3.toUInt32 >>> ((6 : Int32) &&& 31).toUInt32).toInt32) &&& (3 : Int32)) bz27 bz40) (own_kp ks (own_pr (((p3.toUInt32 >>> ((2 : Int32) &&& 31).toUInt32).toInt32) &&& (3 : Int32)) bz27 bz40) (fun _ => .null))) (own_kp ks2 (.ref bz72) (own_kp ks (.ref bz55) (fun _ => .null)))), .val .null] [.null])) _
              refine XS.astore X136.here hx rfl (hb hby at_257) rfl rfl (l' := #[.val (.int p1), .val (.int p2), .val (.int p3), .val (.ref bz1), .val (.ref bz8), .val (.int (0 : Int32)), .val (.int sl21), .val (.ref bz27), .val (.ref bz40), .val (.ref bz55), .val (.ref bz72), .val (.int ks), .val (own_pr (((p3.toUInt32 >>> ((2 : Int32) &&& 31).toUInt32).toInt32) &&& (3 : Int32)) bz27 bz40), .val (.int ks2), .val (own_pr (((p3.toUInt32 >>> ((6 : Int32) &&& 31).toUInt32).toInt32) &&& (3 : Int32)) bz27 bz40), .val (.int qs), .val (own_pr (((p3.toUInt32 >>> ((10 : Int32) &&& 31).toUInt32).toInt32) &&& (3 : Int32)) bz27 bz40), .val (own_val qs (own_pr (((p3.toUInt32 >>> ((10 : Int32) &&& 31).toUInt32).toInt32) &&& (3 : Int32)) bz27 bz40) (fun _ => .null) (fun _ => .null)), .val (own_val qs (own_pr (((p3.toUInt32 >>> ((10 : Int32) &&& 31).toUInt32).toInt32) &&& (3 : Int32)) bz27 bz40) (own_kp ks2 (own_pr (((p3.toUInt32 >>> ((6 : Int32) &&& 31).toUInt32).toInt32) &&& (3 : Int32)) bz27 bz40) (own_kp ks (own_pr (((p3.toUInt32 >>> ((2 : Int32) &&& 31).toUInt32).toInt32) &&& (3 : Int32)) bz27 bz40) (fun _ => .null))) (own_kp ks2 (.ref bz72) (own_kp ks (.ref bz55) (fun _ => .null)))), .val .null]) rfl ?_
              exact k
          · rw [if_neg hs241] at k
            refine XS.icmpYes X136.here hx rfl (pc0 := 241) (pc' := 259) rfl (hb hby at_241) rfl (XT.ii_ne_t hs241) (by decide) (by decide) ?_
            exact k
      · rw [if_neg hs203] at k
        refine XS.icmpNo X136.here hx rfl (hb hby at_203) rfl (XT.ii_eq_f hs203) ?_
        show Steps p.tables e below (T136.setTop (mkF m 206 #[.val (.int p1), .val (.int p2), .val (.int p3), .val (.ref bz1), .val (.ref bz8), .val (.int (0 : Int32)), .val (.int sl21), .val (.ref bz27), .val (.ref bz40), .val (.ref bz55), .val (.ref bz72), .val (.int ks), .val (own_pr (((p3.toUInt32 >>> ((2 : Int32) &&& 31).toUInt32).toInt32) &&& (3 : Int32)) bz27 bz40), .val (.int ks2), .val (own_pr (((p3.toUInt32 >>> ((6 : Int32) &&& 31).toUInt32).toInt32) &&& (3 : Int32)) bz27 bz40), .val (.int qs), .val (own_pr (((p3.toUInt32 >>> ((10 : Int32) &&& 31).toUInt32).toInt32) &&& (3 : Int32)) bz27 bz40), .val (own_val qs (own_pr (((p3.toUInt32 >>> ((10 : Int32) &&& 31).toUInt32).toInt32) &&& (3 : Int32)) bz27 bz40) (fun _ => .null) (fun _ => .null)), .val (own_val qs (own_pr (((p3.toUInt32 >>> ((10 : Int32) &&& 31).toUInt32).toInt32) &&& (3 : Int32)) bz27 bz40) (own_kp ks2 (own_pr (((p3.toUInt32 >>> ((6 : Int32) &&& 31).toUInt32).toInt32) &&& (3 : Int32)) bz27 bz40) (own_kp ks (own_pr (((p3.toUInt32 >>> ((2 : Int32) &&& 31).toUInt32).toInt32) &&& (3 : Int32)) bz27 bz40) (fun _ => .null))) (own_kp ks2 (.ref bz72) (own_kp ks (.ref bz55) (fun _ => .null)))), .val .null] [])) _
        refine XS.iload X136.here hx rfl (hb hby at_206) rfl ?_
        show Steps p.tables e below (T136.setTop (mkF m 208 #[.val (.int p1), .val (.int p2), .val (.int p3), .val (.ref bz1), .val (.ref bz8), .val (.int (0 : Int32)), .val (.int sl21), .val (.ref bz27), .val (.ref bz40), .val (.ref bz55), .val (.ref bz72), .val (.int ks), .val (own_pr (((p3.toUInt32 >>> ((2 : Int32) &&& 31).toUInt32).toInt32) &&& (3 : Int32)) bz27 bz40), .val (.int ks2), .val (own_pr (((p3.toUInt32 >>> ((6 : Int32) &&& 31).toUInt32).toInt32) &&& (3 : Int32)) bz27 bz40), .val (.int qs), .val (own_pr (((p3.toUInt32 >>> ((10 : Int32) &&& 31).toUInt32).toInt32) &&& (3 : Int32)) bz27 bz40), .val (own_val qs (own_pr (((p3.toUInt32 >>> ((10 : Int32) &&& 31).toUInt32).toInt32) &&& (3 : Int32)) bz27 bz40) (fun _ => .null) (fun _ => .null)), .val (own_val qs (own_pr (((p3.toUInt32 >>> ((10 : Int32) &&& 31).toUInt32).toInt32) &&& (3 : Int32)) bz27 bz40) (own_kp ks2 (own_pr (((p3.toUInt32 >>> ((6 : Int32) &&& 31).toUInt32).toInt32) &&& (3 : Int32)) bz27 bz40) (own_kp ks (own_pr (((p3.toUInt32 >>> ((2 : Int32) &&& 31).toUInt32).toInt32) &&& (3 : Int32)) bz27 bz40) (fun _ => .null))) (own_kp ks2 (.ref bz72) (own_kp ks (.ref bz55) (fun _ => .null)))), .val .null] [(.int qs)])) _
        refine XS.iload X136.here hx rfl (hb hby at_208) rfl ?_
        show Steps p.tables e below (T136.setTop (mkF m 210 #[.val (.int p1), .val (.int p2), .val (.int p3), .val (.ref bz1), .val (.ref bz8), .val (.int (0 : Int32)), .val (.int sl21), .val (.ref bz27), .val (.ref bz40), .val (.ref bz55), .val (.ref bz72), .val (.int ks), .val (own_pr (((p3.toUInt32 >>> ((2 : Int32) &&& 31).toUInt32).toInt32) &&& (3 : Int32)) bz27 bz40), .val (.int ks2), .val (own_pr (((p3.toUInt32 >>> ((6 : Int32) &&& 31).toUInt32).toInt32) &&& (3 : Int32)) bz27 bz40), .val (.int qs), .val (own_pr (((p3.toUInt32 >>> ((10 : Int32) &&& 31).toUInt32).toInt32) &&& (3 : Int32)) bz27 bz40), .val (own_val qs (own_pr (((p3.toUInt32 >>> ((10 : Int32) &&& 31).toUInt32).toInt32) &&& (3 : Int32)) bz27 bz40) (fun _ => .null) (fun _ => .null)), .val (own_val qs (own_pr (((p3.toUInt32 >>> ((10 : Int32) &&& 31).toUInt32).toInt32) &&& (3 : Int32)) bz27 bz40) (own_kp ks2 (own_pr (((p3.toUInt32 >>> ((6 : Int32) &&& 31).toUInt32).toInt32) &&& (3 : Int32)) bz27 bz40) (own_kp ks (own_pr (((p3.toUInt32 >>> ((2 : Int32) &&& 31).toUInt32).toInt32) &&& (3 : Int32)) bz27 bz40) (fun _ => .null))) (own_kp ks2 (.ref bz72) (own_kp ks (.ref bz55) (fun _ => .null)))), .val .null] [(.int ks2), (.int qs)])) _
        by_cases hs210 : qs = ks2
        · rw [if_pos hs210] at k
          refine XS.icmpNo X136.here hx rfl (hb hby at_210) rfl (XT.ii_ne_f hs210) ?_
          show Steps p.tables e below (T136.setTop (mkF m 213 #[.val (.int p1), .val (.int p2), .val (.int p3), .val (.ref bz1), .val (.ref bz8), .val (.int (0 : Int32)), .val (.int sl21), .val (.ref bz27), .val (.ref bz40), .val (.ref bz55), .val (.ref bz72), .val (.int ks), .val (own_pr (((p3.toUInt32 >>> ((2 : Int32) &&& 31).toUInt32).toInt32) &&& (3 : Int32)) bz27 bz40), .val (.int ks2), .val (own_pr (((p3.toUInt32 >>> ((6 : Int32) &&& 31).toUInt32).toInt32) &&& (3 : Int32)) bz27 bz40), .val (.int qs), .val (own_pr (((p3.toUInt32 >>> ((10 : Int32) &&& 31).toUInt32).toInt32) &&& (3 : Int32)) bz27 bz40), .val (own_val qs (own_pr (((p3.toUInt32 >>> ((10 : Int32) &&& 31).toUInt32).toInt32) &&& (3 : Int32)) bz27 bz40) (fun _ => .null) (fun _ => .null)), .val (own_val qs (own_pr (((p3.toUInt32 >>> ((10 : Int32) &&& 31).toUInt32).toInt32) &&& (3 : Int32)) bz27 bz40) (own_kp ks2 (own_pr (((p3.toUInt32 >>> ((6 : Int32) &&& 31).toUInt32).toInt32) &&& (3 : Int32)) bz27 bz40) (own_kp ks (own_pr (((p3.toUInt32 >>> ((2 : Int32) &&& 31).toUInt32).toInt32) &&& (3 : Int32)) bz27 bz40) (fun _ => .null))) (own_kp ks2 (.ref bz72) (own_kp ks (.ref bz55) (fun _ => .null)))), .val .null] [])) _
          refine XS.aload X136.here hx rfl (hb hby at_213) rfl (own_prR _ _ _) ?_
          show Steps p.tables e below (T136.setTop (mkF m 215 #[.val (.int p1), .val (.int p2), .val (.int p3), .val (.ref bz1), .val (.ref bz8), .val (.int (0 : Int32)), .val (.int sl21), .val (.ref bz27), .val (.ref bz40), .val (.ref bz55), .val (.ref bz72), .val (.int ks), .val (own_pr (((p3.toUInt32 >>> ((2 : Int32) &&& 31).toUInt32).toInt32) &&& (3 : Int32)) bz27 bz40), .val (.int ks2), .val (own_pr (((p3.toUInt32 >>> ((6 : Int32) &&& 31).toUInt32).toInt32) &&& (3 : Int32)) bz27 bz40), .val (.int qs), .val (own_pr (((p3.toUInt32 >>> ((10 : Int32) &&& 31).toUInt32).toInt32) &&& (3 : Int32)) bz27 bz40), .val (own_val qs (own_pr (((p3.toUInt32 >>> ((10 : Int32) &&& 31).toUInt32).toInt32) &&& (3 : Int32)) bz27 bz40) (fun _ => .null) (fun _ => .null)), .val (own_val qs (own_pr (((p3.toUInt32 >>> ((10 : Int32) &&& 31).toUInt32).toInt32) &&& (3 : Int32)) bz27 bz40) (own_kp ks2 (own_pr (((p3.toUInt32 >>> ((6 : Int32) &&& 31).toUInt32).toInt32) &&& (3 : Int32)) bz27 bz40) (own_kp ks (own_pr (((p3.toUInt32 >>> ((2 : Int32) &&& 31).toUInt32).toInt32) &&& (3 : Int32)) bz27 bz40) (fun _ => .null))) (own_kp ks2 (.ref bz72) (own_kp ks (.ref bz55) (fun _ => .null)))), .val .null] [(own_pr (((p3.toUInt32 >>> ((10 : Int32) &&& 31).toUInt32).toInt32) &&& (3 : Int32)) bz27 bz40)])) _
          refine XS.aload X136.here hx rfl (hb hby at_215) rfl (own_prR _ _ _) ?_
          show Steps p.tables e below (T136.setTop (mkF m 217 #[.val (.int p1), .val (.int p2), .val (.int p3), .val (.ref bz1), .val (.ref bz8), .val (.int (0 : Int32)), .val (.int sl21), .val (.ref bz27), .val (.ref bz40), .val (.ref bz55), .val (.ref bz72), .val (.int ks), .val (own_pr (((p3.toUInt32 >>> ((2 : Int32) &&& 31).toUInt32).toInt32) &&& (3 : Int32)) bz27 bz40), .val (.int ks2), .val (own_pr (((p3.toUInt32 >>> ((6 : Int32) &&& 31).toUInt32).toInt32) &&& (3 : Int32)) bz27 bz40), .val (.int qs), .val (own_pr (((p3.toUInt32 >>> ((10 : Int32) &&& 31).toUInt32).toInt32) &&& (3 : Int32)) bz27 bz40), .val (own_val qs (own_pr (((p3.toUInt32 >>> ((10 : Int32) &&& 31).toUInt32).toInt32) &&& (3 : Int32)) bz27 bz40) (fun _ => .null) (fun _ => .null)), .val (own_val qs (own_pr (((p3.toUInt32 >>> ((10 : Int32) &&& 31).toUInt32).toInt32) &&& (3 : Int32)) bz27 bz40) (own_kp ks2 (own_pr (((p3.toUInt32 >>> ((6 : Int32) &&& 31).toUInt32).toInt32) &&& (3 : Int32)) bz27 bz40) (own_kp ks (own_pr (((p3.toUInt32 >>> ((2 : Int32) &&& 31).toUInt32).toInt32) &&& (3 : Int32)) bz27 bz40) (fun _ => .null))) (own_kp ks2 (.ref bz72) (own_kp ks (.ref bz55) (fun _ => .null)))), .val .null] [(own_pr (((p3.toUInt32 >>> ((6 : Int32) &&& 31).toUInt32).toInt32) &&& (3 : Int32)) bz27 bz40), (own_pr (((p3.toUInt32 >>> ((10 : Int32) &&& 31).toUInt32).toInt32) &&& (3 : Int32)) bz27 bz40)])) _
          by_cases hs217 : (own_pr (((p3.toUInt32 >>> ((10 : Int32) &&& 31).toUInt32).toInt32) &&& (3 : Int32)) bz27 bz40) = (own_pr (((p3.toUInt32 >>> ((6 : Int32) &&& 31).toUInt32).toInt32) &&& (3 : Int32)) bz27 bz40)
          · rw [if_pos hs217] at k
            refine XT.acmpNo X136.here hx rfl (hb hby at_217) rfl (own_prR _ _ _) (own_prR _ _ _) (XT.aa_ne_f hs217) ?_
            show Steps p.tables e below (T136.setTop (mkF m 220 #[.val (.int p1), .val (.int p2), .val (.int p3), .val (.ref bz1), .val (.ref bz8), .val (.int (0 : Int32)), .val (.int sl21), .val (.ref bz27), .val (.ref bz40), .val (.ref bz55), .val (.ref bz72), .val (.int ks), .val (own_pr (((p3.toUInt32 >>> ((2 : Int32) &&& 31).toUInt32).toInt32) &&& (3 : Int32)) bz27 bz40), .val (.int ks2), .val (own_pr (((p3.toUInt32 >>> ((6 : Int32) &&& 31).toUInt32).toInt32) &&& (3 : Int32)) bz27 bz40), .val (.int qs), .val (own_pr (((p3.toUInt32 >>> ((10 : Int32) &&& 31).toUInt32).toInt32) &&& (3 : Int32)) bz27 bz40), .val (own_val qs (own_pr (((p3.toUInt32 >>> ((10 : Int32) &&& 31).toUInt32).toInt32) &&& (3 : Int32)) bz27 bz40) (fun _ => .null) (fun _ => .null)), .val (own_val qs (own_pr (((p3.toUInt32 >>> ((10 : Int32) &&& 31).toUInt32).toInt32) &&& (3 : Int32)) bz27 bz40) (own_kp ks2 (own_pr (((p3.toUInt32 >>> ((6 : Int32) &&& 31).toUInt32).toInt32) &&& (3 : Int32)) bz27 bz40) (own_kp ks (own_pr (((p3.toUInt32 >>> ((2 : Int32) &&& 31).toUInt32).toInt32) &&& (3 : Int32)) bz27 bz40) (fun _ => .null))) (own_kp ks2 (.ref bz72) (own_kp ks (.ref bz55) (fun _ => .null)))), .val .null] [])) _
            refine XS.aload X136.here hx rfl (hb hby at_220) rfl rfl ?_
            show Steps p.tables e below (T136.setTop (mkF m 222 #[.val (.int p1), .val (.int p2), .val (.int p3), .val (.ref bz1), .val (.ref bz8), .val (.int (0 : Int32)), .val (.int sl21), .val (.ref bz27), .val (.ref bz40), .val (.ref bz55), .val (.ref bz72), .val (.int ks), .val (own_pr (((p3.toUInt32 >>> ((2 : Int32) &&& 31).toUInt32).toInt32) &&& (3 : Int32)) bz27 bz40), .val (.int ks2), .val (own_pr (((p3.toUInt32 >>> ((6 : Int32) &&& 31).toUInt32).toInt32) &&& (3 : Int32)) bz27 bz40), .val (.int qs), .val (own_pr (((p3.toUInt32 >>> ((10 : Int32) &&& 31).toUInt32).toInt32) &&& (3 : Int32)) bz27 bz40), .val (own_val qs (own_pr (((p3.toUInt32 >>> ((10 : Int32) &&& 31).toUInt32).toInt32) &&& (3 : Int32)) bz27 bz40) (fun _ => .null) (fun _ => .null)), .val (own_val qs (own_pr (((p3.toUInt32 >>> ((10 : Int32) &&& 31).toUInt32).toInt32) &&& (3 : Int32)) bz27 bz40) (own_kp ks2 (own_pr (((p3.toUInt32 >>> ((6 : Int32) &&& 31).toUInt32).toInt32) &&& (3 : Int32)) bz27 bz40) (own_kp ks (own_pr (((p3.toUInt32 >>> ((2 : Int32) &&& 31).toUInt32).toInt32) &&& (3 : Int32)) bz27 bz40) (fun _ => .null))) (own_kp ks2 (.ref bz72) (own_kp ks (.ref bz55) (fun _ => .null)))), .val .null] [(.ref bz72)])) _
            refine XS.goto X136.here hx rfl (pc0 := 222) (pc' := 226) rfl (hb hby at_222) (by decide) (by decide) ?_
            show Steps p.tables e below (T136.setTop (mkF m 226 #[.val (.int p1), .val (.int p2), .val (.int p3), .val (.ref bz1), .val (.ref bz8), .val (.int (0 : Int32)), .val (.int sl21), .val (.ref bz27), .val (.ref bz40), .val (.ref bz55), .val (.ref bz72), .val (.int ks), .val (own_pr (((p3.toUInt32 >>> ((2 : Int32) &&& 31).toUInt32).toInt32) &&& (3 : Int32)) bz27 bz40), .val (.int ks2), .val (own_pr (((p3.toUInt32 >>> ((6 : Int32) &&& 31).toUInt32).toInt32) &&& (3 : Int32)) bz27 bz40), .val (.int qs), .val (own_pr (((p3.toUInt32 >>> ((10 : Int32) &&& 31).toUInt32).toInt32) &&& (3 : Int32)) bz27 bz40), .val (own_val qs (own_pr (((p3.toUInt32 >>> ((10 : Int32) &&& 31).toUInt32).toInt32) &&& (3 : Int32)) bz27 bz40) (fun _ => .null) (fun _ => .null)), .val (own_val qs (own_pr (((p3.toUInt32 >>> ((10 : Int32) &&& 31).toUInt32).toInt32) &&& (3 : Int32)) bz27 bz40) (own_kp ks2 (own_pr (((p3.toUInt32 >>> ((6 : Int32) &&& 31).toUInt32).toInt32) &&& (3 : Int32)) bz27 bz40) (own_kp ks (own_pr (((p3.toUInt32 >>> ((2 : Int32) &&& 31).toUInt32).toInt32) &&& (3 : Int32)) bz27 bz40) (fun _ => .null))) (own_kp ks2 (.ref bz72) (own_kp ks (.ref bz55) (fun _ => .null)))), .val .null] [(.ref bz72)])) _
            refine XS.astore X136.here hx rfl (hb hby at_226) rfl rfl (l' := #[.val (.int p1), .val (.int p2), .val (.int p3), .val (.ref bz1), .val (.ref bz8), .val (.int (0 : Int32)), .val (.int sl21), .val (.ref bz27), .val (.ref bz40), .val (.ref bz55), .val (.ref bz72), .val (.int ks), .val (own_pr (((p3.toUInt32 >>> ((2 : Int32) &&& 31).toUInt32).toInt32) &&& (3 : Int32)) bz27 bz40), .val (.int ks2), .val (own_pr (((p3.toUInt32 >>> ((6 : Int32) &&& 31).toUInt32).toInt32) &&& (3 : Int32)) bz27 bz40), .val (.int qs), .val (own_pr (((p3.toUInt32 >>> ((10 : Int32) &&& 31).toUInt32).toInt32) &&& (3 : Int32)) bz27 bz40), .val (own_val qs (own_pr (((p3.toUInt32 >>> ((10 : Int32) &&& 31).toUInt32).toInt32) &&& (3 : Int32)) bz27 bz40) (fun _ => .null) (fun _ => .null)), .val (own_val qs (own_pr (((p3.toUInt32 >>> ((10 : Int32) &&& 31).toUInt32).toInt32) &&& (3 : Int32)) bz27 bz40) (own_kp ks2 (own_pr (((p3.toUInt32 >>> ((6 : Int32) &&& 31).toUInt32).toInt32) &&& (3 : Int32)) bz27 bz40) (own_kp ks (own_pr (((p3.toUInt32 >>> ((2 : Int32) &&& 31).toUInt32).toInt32) &&& (3 : Int32)) bz27 bz40) (fun _ => .null))) (own_kp ks2 (.ref bz72) (own_kp ks (.ref bz55) (fun _ => .null)))), .val (.ref bz72)]) rfl ?_
            show Steps p.tables e below (T136.setTop (mkF m 228 #[.val (.int p1), .val (.int p2), .val (.int p3), .val (.ref bz1), .val (.ref bz8), .val (.int (0 : Int32)), .val (.int sl21), .val (.ref bz27), .val (.ref bz40), .val (.ref bz55), .val (.ref bz72), .val (.int ks), .val (own_pr (((p3.toUInt32 >>> ((2 : Int32) &&& 31).toUInt32).toInt32) &&& (3 : Int32)) bz27 bz40), .val (.int ks2), .val (own_pr (((p3.toUInt32 >>> ((6 : Int32) &&& 31).toUInt32).toInt32) &&& (3 : Int32)) bz27 bz40), .val (.int qs), .val (own_pr (((p3.toUInt32 >>> ((10 : Int32) &&& 31).toUInt32).toInt32) &&& (3 : Int32)) bz27 bz40), .val (own_val qs (own_pr (((p3.toUInt32 >>> ((10 : Int32) &&& 31).toUInt32).toInt32) &&& (3 : Int32)) bz27 bz40) (fun _ => .null) (fun _ => .null)), .val (own_val qs (own_pr (((p3.toUInt32 >>> ((10 : Int32) &&& 31).toUInt32).toInt32) &&& (3 : Int32)) bz27 bz40) (own_kp ks2 (own_pr (((p3.toUInt32 >>> ((6 : Int32) &&& 31).toUInt32).toInt32) &&& (3 : Int32)) bz27 bz40) (own_kp ks (own_pr (((p3.toUInt32 >>> ((2 : Int32) &&& 31).toUInt32).toInt32) &&& (3 : Int32)) bz27 bz40) (fun _ => .null))) (own_kp ks2 (.ref bz72) (own_kp ks (.ref bz55) (fun _ => .null)))), .val (.ref bz72)] [])) _
            refine XS.goto X136.here hx rfl (pc0 := 228) (pc' := 259) rfl (hb hby at_228) (by decide) (by decide) ?_
            exact k
          · rw [if_neg hs217] at k
            refine XT.acmpYes X136.here hx rfl (pc0 := 217) (pc' := 225) rfl (hb hby at_217) rfl (own_prR _ _ _) (own_prR _ _ _) (XT.aa_ne_t hs217) (by decide) (by decide) ?_
            show Steps p.tables e below (T136.setTop (mkF m 225 #[.val (.int p1), .val (.int p2), .val (.int p3), .val (.ref bz1), .val (.ref bz8), .val (.int (0 : Int32)), .val (.int sl21), .val (.ref bz27), .val (.ref bz40), .val (.ref bz55), .val (.ref bz72), .val (.int ks), .val (own_pr (((p3.toUInt32 >>> ((2 : Int32) &&& 31).toUInt32).toInt32) &&& (3 : Int32)) bz27 bz40), .val (.int ks2), .val (own_pr (((p3.toUInt32 >>> ((6 : Int32) &&& 31).toUInt32).toInt32) &&& (3 : Int32)) bz27 bz40), .val (.int qs), .val (own_pr (((p3.toUInt32 >>> ((10 : Int32) &&& 31).toUInt32).toInt32) &&& (3 : Int32)) bz27 bz40), .val (own_val qs (own_pr (((p3.toUInt32 >>> ((10 : Int32) &&& 31).toUInt32).toInt32) &&& (3 : Int32)) bz27 bz40) (fun _ => .null) (fun _ => .null)), .val (own_val qs (own_pr (((p3.toUInt32 >>> ((10 : Int32) &&& 31).toUInt32).toInt32) &&& (3 : Int32)) bz27 bz40) (own_kp ks2 (own_pr (((p3.toUInt32 >>> ((6 : Int32) &&& 31).toUInt32).toInt32) &&& (3 : Int32)) bz27 bz40) (own_kp ks (own_pr (((p3.toUInt32 >>> ((2 : Int32) &&& 31).toUInt32).toInt32) &&& (3 : Int32)) bz27 bz40) (fun _ => .null))) (own_kp ks2 (.ref bz72) (own_kp ks (.ref bz55) (fun _ => .null)))), .val .null] [])) _
            refine XS.aconstNull X136.here hx rfl (hb hby at_225) ?_
            show Steps p.tables e below (T136.setTop (mkF m 226 #[.val (.int p1), .val (.int p2), .val (.int p3), .val (.ref bz1), .val (.ref bz8), .val (.int (0 : Int32)), .val (.int sl21), .val (.ref bz27), .val (.ref bz40), .val (.ref bz55), .val (.ref bz72), .val (.int ks), .val (own_pr (((p3.toUInt32 >>> ((2 : Int32) &&& 31).toUInt32).toInt32) &&& (3 : Int32)) bz27 bz40), .val (.int ks2), .val (own_pr (((p3.toUInt32 >>> ((6 : Int32) &&& 31).toUInt32).toInt32) &&& (3 : Int32)) bz27 bz40), .val (.int qs), .val (own_pr (((p3.toUInt32 >>> ((10 : Int32) &&& 31).toUInt32).toInt32) &&& (3 : Int32)) bz27 bz40), .val (own_val qs (own_pr (((p3.toUInt32 >>> ((10 : Int32) &&& 31).toUInt32).toInt32) &&& (3 : Int32)) bz27 bz40) (fun _ => .null) (fun _ => .null)), .val (own_val qs (own_pr (((p3.toUInt32 >>> ((10 : Int32) &&& 31).toUInt32).toInt32) &&& (3 : Int32)) bz27 bz40) (own_kp ks2 (own_pr (((p3.toUInt32 >>> ((6 : Int32) &&& 31).toUInt32).toInt32) &&& (3 : Int32)) bz27 bz40) (own_kp ks (own_pr (((p3.toUInt32 >>> ((2 : Int32) &&& 31).toUInt32).toInt32) &&& (3 : Int32)) bz27 bz40) (fun _ => .null))) (own_kp ks2 (.ref bz72) (own_kp ks (.ref bz55) (fun _ => .null)))), .val .null] [.null])) _
            refine XS.astore X136.here hx rfl (hb hby at_226) rfl rfl (l' := #[.val (.int p1), .val (.int p2), .val (.int p3), .val (.ref bz1), .val (.ref bz8), .val (.int (0 : Int32)), .val (.int sl21), .val (.ref bz27), .val (.ref bz40), .val (.ref bz55), .val (.ref bz72), .val (.int ks), .val (own_pr (((p3.toUInt32 >>> ((2 : Int32) &&& 31).toUInt32).toInt32) &&& (3 : Int32)) bz27 bz40), .val (.int ks2), .val (own_pr (((p3.toUInt32 >>> ((6 : Int32) &&& 31).toUInt32).toInt32) &&& (3 : Int32)) bz27 bz40), .val (.int qs), .val (own_pr (((p3.toUInt32 >>> ((10 : Int32) &&& 31).toUInt32).toInt32) &&& (3 : Int32)) bz27 bz40), .val (own_val qs (own_pr (((p3.toUInt32 >>> ((10 : Int32) &&& 31).toUInt32).toInt32) &&& (3 : Int32)) bz27 bz40) (fun _ => .null) (fun _ => .null)), .val (own_val qs (own_pr (((p3.toUInt32 >>> ((10 : Int32) &&& 31).toUInt32).toInt32) &&& (3 : Int32)) bz27 bz40) (own_kp ks2 (own_pr (((p3.toUInt32 >>> ((6 : Int32) &&& 31).toUInt32).toInt32) &&& (3 : Int32)) bz27 bz40) (own_kp ks (own_pr (((p3.toUInt32 >>> ((2 : Int32) &&& 31).toUInt32).toInt32) &&& (3 : Int32)) bz27 bz40) (fun _ => .null))) (own_kp ks2 (.ref bz72) (own_kp ks (.ref bz55) (fun _ => .null)))), .val .null]) rfl ?_
            show Steps p.tables e below (T136.setTop (mkF m 228 #[.val (.int p1), .val (.int p2), .val (.int p3), .val (.ref bz1), .val (.ref bz8), .val (.int (0 : Int32)), .val (.int sl21), .val (.ref bz27), .val (.ref bz40), .val (.ref bz55), .val (.ref bz72), .val (.int ks), .val (own_pr (((p3.toUInt32 >>> ((2 : Int32) &&& 31).toUInt32).toInt32) &&& (3 : Int32)) bz27 bz40), .val (.int ks2), .val (own_pr (((p3.toUInt32 >>> ((6 : Int32) &&& 31).toUInt32).toInt32) &&& (3 : Int32)) bz27 bz40), .val (.int qs), .val (own_pr (((p3.toUInt32 >>> ((10 : Int32) &&& 31).toUInt32).toInt32) &&& (3 : Int32)) bz27 bz40), .val (own_val qs (own_pr (((p3.toUInt32 >>> ((10 : Int32) &&& 31).toUInt32).toInt32) &&& (3 : Int32)) bz27 bz40) (fun _ => .null) (fun _ => .null)), .val (own_val qs (own_pr (((p3.toUInt32 >>> ((10 : Int32) &&& 31).toUInt32).toInt32) &&& (3 : Int32)) bz27 bz40) (own_kp ks2 (own_pr (((p3.toUInt32 >>> ((6 : Int32) &&& 31).toUInt32).toInt32) &&& (3 : Int32)) bz27 bz40) (own_kp ks (own_pr (((p3.toUInt32 >>> ((2 : Int32) &&& 31).toUInt32).toInt32) &&& (3 : Int32)) bz27 bz40) (fun _ => .null))) (own_kp ks2 (.ref bz72) (own_kp ks (.ref bz55) (fun _ => .null)))), .val .null] [])) _
            refine XS.goto X136.here hx rfl (pc0 := 228) (pc' := 259) rfl (hb hby at_228) (by decide) (by decide) ?_
            exact k
        · rw [if_neg hs210] at k
          refine XS.icmpYes X136.here hx rfl (pc0 := 210) (pc' := 231) rfl (hb hby at_210) rfl (XT.ii_ne_t hs210) (by decide) (by decide) ?_
          show Steps p.tables e below (T136.setTop (mkF m 231 #[.val (.int p1), .val (.int p2), .val (.int p3), .val (.ref bz1), .val (.ref bz8), .val (.int (0 : Int32)), .val (.int sl21), .val (.ref bz27), .val (.ref bz40), .val (.ref bz55), .val (.ref bz72), .val (.int ks), .val (own_pr (((p3.toUInt32 >>> ((2 : Int32) &&& 31).toUInt32).toInt32) &&& (3 : Int32)) bz27 bz40), .val (.int ks2), .val (own_pr (((p3.toUInt32 >>> ((6 : Int32) &&& 31).toUInt32).toInt32) &&& (3 : Int32)) bz27 bz40), .val (.int qs), .val (own_pr (((p3.toUInt32 >>> ((10 : Int32) &&& 31).toUInt32).toInt32) &&& (3 : Int32)) bz27 bz40), .val (own_val qs (own_pr (((p3.toUInt32 >>> ((10 : Int32) &&& 31).toUInt32).toInt32) &&& (3 : Int32)) bz27 bz40) (fun _ => .null) (fun _ => .null)), .val (own_val qs (own_pr (((p3.toUInt32 >>> ((10 : Int32) &&& 31).toUInt32).toInt32) &&& (3 : Int32)) bz27 bz40) (own_kp ks2 (own_pr (((p3.toUInt32 >>> ((6 : Int32) &&& 31).toUInt32).toInt32) &&& (3 : Int32)) bz27 bz40) (own_kp ks (own_pr (((p3.toUInt32 >>> ((2 : Int32) &&& 31).toUInt32).toInt32) &&& (3 : Int32)) bz27 bz40) (fun _ => .null))) (own_kp ks2 (.ref bz72) (own_kp ks (.ref bz55) (fun _ => .null)))), .val .null] [])) _
          refine XS.iload X136.here hx rfl (hb hby at_231) rfl ?_
          show Steps p.tables e below (T136.setTop (mkF m 233 #[.val (.int p1), .val (.int p2), .val (.int p3), .val (.ref bz1), .val (.ref bz8), .val (.int (0 : Int32)), .val (.int sl21), .val (.ref bz27), .val (.ref bz40), .val (.ref bz55), .val (.ref bz72), .val (.int ks), .val (own_pr (((p3.toUInt32 >>> ((2 : Int32) &&& 31).toUInt32).toInt32) &&& (3 : Int32)) bz27 bz40), .val (.int ks2), .val (own_pr (((p3.toUInt32 >>> ((6 : Int32) &&& 31).toUInt32).toInt32) &&& (3 : Int32)) bz27 bz40), .val (.int qs), .val (own_pr (((p3.toUInt32 >>> ((10 : Int32) &&& 31).toUInt32).toInt32) &&& (3 : Int32)) bz27 bz40), .val (own_val qs (own_pr (((p3.toUInt32 >>> ((10 : Int32) &&& 31).toUInt32).toInt32) &&& (3 : Int32)) bz27 bz40) (fun _ => .null) (fun _ => .null)), .val (own_val qs (own_pr (((p3.toUInt32 >>> ((10 : Int32) &&& 31).toUInt32).toInt32) &&& (3 : Int32)) bz27 bz40) (own_kp ks2 (own_pr (((p3.toUInt32 >>> ((6 : Int32) &&& 31).toUInt32).toInt32) &&& (3 : Int32)) bz27 bz40) (own_kp ks (own_pr (((p3.toUInt32 >>> ((2 : Int32) &&& 31).toUInt32).toInt32) &&& (3 : Int32)) bz27 bz40) (fun _ => .null))) (own_kp ks2 (.ref bz72) (own_kp ks (.ref bz55) (fun _ => .null)))), .val .null] [(.int ks)])) _
          refine XS.iconst X136.here hx rfl (hb hby at_233) ?_
          show Steps p.tables e below (T136.setTop (mkF m 234 #[.val (.int p1), .val (.int p2), .val (.int p3), .val (.ref bz1), .val (.ref bz8), .val (.int (0 : Int32)), .val (.int sl21), .val (.ref bz27), .val (.ref bz40), .val (.ref bz55), .val (.ref bz72), .val (.int ks), .val (own_pr (((p3.toUInt32 >>> ((2 : Int32) &&& 31).toUInt32).toInt32) &&& (3 : Int32)) bz27 bz40), .val (.int ks2), .val (own_pr (((p3.toUInt32 >>> ((6 : Int32) &&& 31).toUInt32).toInt32) &&& (3 : Int32)) bz27 bz40), .val (.int qs), .val (own_pr (((p3.toUInt32 >>> ((10 : Int32) &&& 31).toUInt32).toInt32) &&& (3 : Int32)) bz27 bz40), .val (own_val qs (own_pr (((p3.toUInt32 >>> ((10 : Int32) &&& 31).toUInt32).toInt32) &&& (3 : Int32)) bz27 bz40) (fun _ => .null) (fun _ => .null)), .val (own_val qs (own_pr (((p3.toUInt32 >>> ((10 : Int32) &&& 31).toUInt32).toInt32) &&& (3 : Int32)) bz27 bz40) (own_kp ks2 (own_pr (((p3.toUInt32 >>> ((6 : Int32) &&& 31).toUInt32).toInt32) &&& (3 : Int32)) bz27 bz40) (own_kp ks (own_pr (((p3.toUInt32 >>> ((2 : Int32) &&& 31).toUInt32).toInt32) &&& (3 : Int32)) bz27 bz40) (fun _ => .null))) (own_kp ks2 (.ref bz72) (own_kp ks (.ref bz55) (fun _ => .null)))), .val .null] [(.int (-1 : Int32)), (.int ks)])) _
          by_cases hs234 : ks = (-1 : Int32)
          · rw [if_pos hs234] at k
            refine XS.icmpYes X136.here hx rfl (pc0 := 234) (pc' := 259) rfl (hb hby at_234) rfl (XT.ii_eq_t hs234) (by decide) (by decide) ?_
            exact k
          · rw [if_neg hs234] at k
            refine XS.icmpNo X136.here hx rfl (hb hby at_234) rfl (XT.ii_eq_f hs234) ?_
            show Steps p.tables e below (T136.setTop (mkF m 237 #[.val (.int p1), .val (.int p2), .val (.int p3), .val (.ref bz1), .val (.ref bz8), .val (.int (0 : Int32)), .val (.int sl21), .val (.ref bz27), .val (.ref bz40), .val (.ref bz55), .val (.ref bz72), .val (.int ks), .val (own_pr (((p3.toUInt32 >>> ((2 : Int32) &&& 31).toUInt32).toInt32) &&& (3 : Int32)) bz27 bz40), .val (.int ks2), .val (own_pr (((p3.toUInt32 >>> ((6 : Int32) &&& 31).toUInt32).toInt32) &&& (3 : Int32)) bz27 bz40), .val (.int qs), .val (own_pr (((p3.toUInt32 >>> ((10 : Int32) &&& 31).toUInt32).toInt32) &&& (3 : Int32)) bz27 bz40), .val (own_val qs (own_pr (((p3.toUInt32 >>> ((10 : Int32) &&& 31).toUInt32).toInt32) &&& (3 : Int32)) bz27 bz40) (fun _ => .null) (fun _ => .null)), .val (own_val qs (own_pr (((p3.toUInt32 >>> ((10 : Int32) &&& 31).toUInt32).toInt32) &&& (3 : Int32)) bz27 bz40) (own_kp ks2 (own_pr (((p3.toUInt32 >>> ((6 : Int32) &&& 31).toUInt32).toInt32) &&& (3 : Int32)) bz27 bz40) (own_kp ks (own_pr (((p3.toUInt32 >>> ((2 : Int32) &&& 31).toUInt32).toInt32) &&& (3 : Int32)) bz27 bz40) (fun _ => .null))) (own_kp ks2 (.ref bz72) (own_kp ks (.ref bz55) (fun _ => .null)))), .val .null] [])) _
            refine XS.iload X136.here hx rfl (hb hby at_237) rfl ?_
            show Steps p.tables e below (T136.setTop (mkF m 239 #[.val (.int p1), .val (.int p2), .val (.int p3), .val (.ref bz1), .val (.ref bz8), .val (.int (0 : Int32)), .val (.int sl21), .val (.ref bz27), .val (.ref bz40), .val (.ref bz55), .val (.ref bz72), .val (.int ks), .val (own_pr (((p3.toUInt32 >>> ((2 : Int32) &&& 31).toUInt32).toInt32) &&& (3 : Int32)) bz27 bz40), .val (.int ks2), .val (own_pr (((p3.toUInt32 >>> ((6 : Int32) &&& 31).toUInt32).toInt32) &&& (3 : Int32)) bz27 bz40), .val (.int qs), .val (own_pr (((p3.toUInt32 >>> ((10 : Int32) &&& 31).toUInt32).toInt32) &&& (3 : Int32)) bz27 bz40), .val (own_val qs (own_pr (((p3.toUInt32 >>> ((10 : Int32) &&& 31).toUInt32).toInt32) &&& (3 : Int32)) bz27 bz40) (fun _ => .null) (fun _ => .null)), .val (own_val qs (own_pr (((p3.toUInt32 >>> ((10 : Int32) &&& 31).toUInt32).toInt32) &&& (3 : Int32)) bz27 bz40) (own_kp ks2 (own_pr (((p3.toUInt32 >>> ((6 : Int32) &&& 31).toUInt32).toInt32) &&& (3 : Int32)) bz27 bz40) (own_kp ks (own_pr (((p3.toUInt32 >>> ((2 : Int32) &&& 31).toUInt32).toInt32) &&& (3 : Int32)) bz27 bz40) (fun _ => .null))) (own_kp ks2 (.ref bz72) (own_kp ks (.ref bz55) (fun _ => .null)))), .val .null] [(.int qs)])) _
            refine XS.iload X136.here hx rfl (hb hby at_239) rfl ?_
            show Steps p.tables e below (T136.setTop (mkF m 241 #[.val (.int p1), .val (.int p2), .val (.int p3), .val (.ref bz1), .val (.ref bz8), .val (.int (0 : Int32)), .val (.int sl21), .val (.ref bz27), .val (.ref bz40), .val (.ref bz55), .val (.ref bz72), .val (.int ks), .val (own_pr (((p3.toUInt32 >>> ((2 : Int32) &&& 31).toUInt32).toInt32) &&& (3 : Int32)) bz27 bz40), .val (.int ks2), .val (own_pr (((p3.toUInt32 >>> ((6 : Int32) &&& 31).toUInt32).toInt32) &&& (3 : Int32)) bz27 bz40), .val (.int qs), .val (own_pr (((p3.toUInt32 >>> ((10 : Int32) &&& 31).toUInt32).toInt32) &&& (3 : Int32)) bz27 bz40), .val (own_val qs (own_pr (((p3.toUInt32 >>> ((10 : Int32) &&& 31).toUInt32).toInt32) &&& (3 : Int32)) bz27 bz40) (fun _ => .null) (fun _ => .null)), .val (own_val qs (own_pr (((p3.toUInt32 >>> ((10 : Int32) &&& 31).toUInt32).toInt32) &&& (3 : Int32)) bz27 bz40) (own_kp ks2 (own_pr (((p3.toUInt32 >>> ((6 : Int32) &&& 31).toUInt32).toInt32) &&& (3 : Int32)) bz27 bz40) (own_kp ks (own_pr (((p3.toUInt32 >>> ((2 : Int32) &&& 31).toUInt32).toInt32) &&& (3 : Int32)) bz27 bz40) (fun _ => .null))) (own_kp ks2 (.ref bz72) (own_kp ks (.ref bz55) (fun _ => .null)))), .val .null] [(.int ks), (.int qs)])) _
            by_cases hs241 : qs = ks
            · rw [if_pos hs241] at k
              refine XS.icmpNo X136.here hx rfl (hb hby at_241) rfl (XT.ii_ne_f hs241) ?_
              show Steps p.tables e below (T136.setTop (mkF m 244 #[.val (.int p1), .val (.int p2), .val (.int p3), .val (.ref bz1), .val (.ref bz8), .val (.int (0 : Int32)), .val (.int sl21), .val (.ref bz27), .val (.ref bz40), .val (.ref bz55), .val (.ref bz72), .val (.int ks), .val (own_pr (((p3.toUInt32 >>> ((2 : Int32) &&& 31).toUInt32).toInt32) &&& (3 : Int32)) bz27 bz40), .val (.int ks2), .val (own_pr (((p3.toUInt32 >>> ((6 : Int32) &&& 31).toUInt32).toInt32) &&& (3 : Int32)) bz27 bz40), .val (.int qs), .val (own_pr (((p3.toUInt32 >>> ((10 : Int32) &&& 31).toUInt32).toInt32) &&& (3 : Int32)) bz27 bz40), .val (own_val qs (own_pr (((p3.toUInt32 >>> ((10 : Int32) &&& 31).toUInt32).toInt32) &&& (3 : Int32)) bz27 bz40) (fun _ => .null) (fun _ => .null)), .val (own_val qs (own_pr (((p3.toUInt32 >>> ((10 : Int32) &&& 31).toUInt32).toInt32) &&& (3 : Int32)) bz27 bz40) (own_kp ks2 (own_pr (((p3.toUInt32 >>> ((6 : Int32) &&& 31).toUInt32).toInt32) &&& (3 : Int32)) bz27 bz40) (own_kp ks (own_pr (((p3.toUInt32 >>> ((2 : Int32) &&& 31).toUInt32).toInt32) &&& (3 : Int32)) bz27 bz40) (fun _ => .null))) (own_kp ks2 (.ref bz72) (own_kp ks (.ref bz55) (fun _ => .null)))), .val .null] [])) _
              refine XS.aload X136.here hx rfl (hb hby at_244) rfl (own_prR _ _ _) ?_
              show Steps p.tables e below (T136.setTop (mkF m 246 #[.val (.int p1), .val (.int p2), .val (.int p3), .val (.ref bz1), .val (.ref bz8), .val (.int (0 : Int32)), .val (.int sl21), .val (.ref bz27), .val (.ref bz40), .val (.ref bz55), .val (.ref bz72), .val (.int ks), .val (own_pr (((p3.toUInt32 >>> ((2 : Int32) &&& 31).toUInt32).toInt32) &&& (3 : Int32)) bz27 bz40), .val (.int ks2), .val (own_pr (((p3.toUInt32 >>> ((6 : Int32) &&& 31).toUInt32).toInt32) &&& (3 : Int32)) bz27 bz40), .val (.int qs), .val (own_pr (((p3.toUInt32 >>> ((10 : Int32) &&& 31).toUInt32).toInt32) &&& (3 : Int32)) bz27 bz40), .val (own_val qs (own_pr (((p3.toUInt32 >>> ((10 : Int32) &&& 31).toUInt32).toInt32) &&& (3 : Int32)) bz27 bz40) (fun _ => .null) (fun _ => .null)), .val (own_val qs (own_pr (((p3.toUInt32 >>> ((10 : Int32) &&& 31).toUInt32).toInt32) &&& (3 : Int32)) bz27 bz40) (own_kp ks2 (own_pr (((p3.toUInt32 >>> ((6 : Int32) &&& 31).toUInt32).toInt32) &&& (3 : Int32)) bz27 bz40) (own_kp ks (own_pr (((p3.toUInt32 >>> ((2 : Int32) &&& 31).toUInt32).toInt32) &&& (3 : Int32)) bz27 bz40) (fun _ => .null))) (own_kp ks2 (.ref bz72) (own_kp ks (.ref bz55) (fun _ => .null)))), .val .null] [(own_pr (((p3.toUInt32 >>> ((10 : Int32) &&& 31).toUInt32).toInt32) &&& (3 : Int32)) bz27 bz40)])) _
              refine XS.aload X136.here hx rfl (hb hby at_246) rfl (own_prR _ _ _) ?_
              show Steps p.tables e below (T136.setTop (mkF m 248 #[.val (.int p1), .val (.int p2), .val (.int p3), .val (.ref bz1), .val (.ref bz8), .val (.int (0 : Int32)), .val (.int sl21), .val (.ref bz27), .val (.ref bz40), .val (.ref bz55), .val (.ref bz72), .val (.int ks), .val (own_pr (((p3.toUInt32 >>> ((2 : Int32) &&& 31).toUInt32).toInt32) &&& (3 : Int32)) bz27 bz40), .val (.int ks2), .val (own_pr (((p3.toUInt32 >>> ((6 : Int32) &&& 31).toUInt32).toInt32) &&& (3 : Int32)) bz27 bz40), .val (.int qs), .val (own_pr (((p3.toUInt32 >>> ((10 : Int32) &&& 31).toUInt32).toInt32) &&& (3 : Int32)) bz27 bz40), .val (own_val qs (own_pr (((p3.toUInt32 >>> ((10 : Int32) &&& 31).toUInt32).toInt32) &&& (3 : Int32)) bz27 bz40) (fun _ => .null) (fun _ => .null)), .val (own_val qs (own_pr (((p3.toUInt32 >>> ((10 : Int32) &&& 31).toUInt32).toInt32) &&& (3 : Int32)) bz27 bz40) (own_kp ks2 (own_pr (((p3.toUInt32 >>> ((6 : Int32) &&& 31).toUInt32).toInt32) &&& (3 : Int32)) bz27 bz40) (own_kp ks (own_pr (((p3.toUInt32 >>> ((2 : Int32) &&& 31).toUInt32).toInt32) &&& (3 : Int32)) bz27 bz40) (fun _ => .null))) (own_kp ks2 (.ref bz72) (own_kp ks (.ref bz55) (fun _ => .null)))), .val .null] [(own_pr (((p3.toUInt32 >>> ((2 : Int32) &&& 31).toUInt32).toInt32) &&& (3 : Int32)) bz27 bz40), (own_pr (((p3.toUInt32 >>> ((10 : Int32) &&& 31).toUInt32).toInt32) &&& (3 : Int32)) bz27 bz40)])) _
              by_cases hs248 : (own_pr (((p3.toUInt32 >>> ((10 : Int32) &&& 31).toUInt32).toInt32) &&& (3 : Int32)) bz27 bz40) = (own_pr (((p3.toUInt32 >>> ((2 : Int32) &&& 31).toUInt32).toInt32) &&& (3 : Int32)) bz27 bz40)
              · rw [if_pos hs248] at k
                refine XT.acmpNo X136.here hx rfl (hb hby at_248) rfl (own_prR _ _ _) (own_prR _ _ _) (XT.aa_ne_f hs248) ?_
                show Steps p.tables e below (T136.setTop (mkF m 251 #[.val (.int p1), .val (.int p2), .val (.int p3), .val (.ref bz1), .val (.ref bz8), .val (.int (0 : Int32)), .val (.int sl21), .val (.ref bz27), .val (.ref bz40), .val (.ref bz55), .val (.ref bz72), .val (.int ks), .val (own_pr (((p3.toUInt32 >>> ((2 : Int32) &&& 31).toUInt32).toInt32) &&& (3 : Int32)) bz27 bz40), .val (.int ks2), .val (own_pr (((p3.toUInt32 >>> ((6 : Int32) &&& 31).toUInt32).toInt32) &&& (3 : Int32)) bz27 bz40), .val (.int qs), .val (own_pr (((p3.toUInt32 >>> ((10 : Int32) &&& 31).toUInt32).toInt32) &&& (3 : Int32)) bz27 bz40), .val (own_val qs (own_pr (((p3.toUInt32 >>> ((10 : Int32) &&& 31).toUInt32).toInt32) &&& (3 : Int32)) bz27 bz40) (fun _ => .null) (fun _ => .null)), .val (own_val qs (own_pr (((p3.toUInt32 >>> ((10 : Int32) &&& 31).toUInt32).toInt32) &&& (3 : Int32)) bz27 bz40) (own_kp ks2 (own_pr (((p3.toUInt32 >>> ((6 : Int32) &&& 31).toUInt32).toInt32) &&& (3 : Int32)) bz27 bz40) (own_kp ks (own_pr (((p3.toUInt32 >>> ((2 : Int32) &&& 31).toUInt32).toInt32) &&& (3 : Int32)) bz27 bz40) (fun _ => .null))) (own_kp ks2 (.ref bz72) (own_kp ks (.ref bz55) (fun _ => .null)))), .val .null] [])) _
                refine XS.aload X136.here hx rfl (hb hby at_251) rfl rfl ?_
                show Steps p.tables e below (T136.setTop (mkF m 253 #[.val (.int p1), .val (.int p2), .val (.int p3), .val (.ref bz1), .val (.ref bz8), .val (.int (0 : Int32)), .val (.int sl21), .val (.ref bz27), .val (.ref bz40), .val (.ref bz55), .val (.ref bz72), .val (.int ks), .val (own_pr (((p3.toUInt32 >>> ((2 : Int32) &&& 31).toUInt32).toInt32) &&& (3 : Int32)) bz27 bz40), .val (.int ks2), .val (own_pr (((p3.toUInt32 >>> ((6 : Int32) &&& 31).toUInt32).toInt32) &&& (3 : Int32)) bz27 bz40), .val (.int qs), .val (own_pr (((p3.toUInt32 >>> ((10 : Int32) &&& 31).toUInt32).toInt32) &&& (3 : Int32)) bz27 bz40), .val (own_val qs (own_pr (((p3.toUInt32 >>> ((10 : Int32) &&& 31).toUInt32).toInt32) &&& (3 : Int32)) bz27 bz40) (fun _ => .null) (fun _ => .null)), .val (own_val qs (own_pr (((p3.toUInt32 >>> ((10 : Int32) &&& 31).toUInt32).toInt32) &&& (3 : Int32)) bz27 bz40) (own_kp ks2 (own_pr (((p3.toUInt32 >>> ((6 : Int32) &&& 31).toUInt32).toInt32) &&& (3 : Int32)) bz27 bz40) (own_kp ks (own_pr (((p3.toUInt32 >>> ((2 : Int32) &&& 31).toUInt32).toInt32) &&& (3 : Int32)) bz27 bz40) (fun _ => .null))) (own_kp ks2 (.ref bz72) (own_kp ks (.ref bz55) (fun _ => .null)))), .val .null] [(.ref bz55)])) _
                refine XS.goto X136.here hx rfl (pc0 := 253) (pc' := 257) rfl (hb hby at_253) (by decide) (by decide) ?_
                show Steps p.tables e below (T136.setTop (mkF m 257 #[.val (.int p1), .val (.int p2), .val (.int p3), .val (.ref bz1), .val (.ref bz8), .val (.int (0 : Int32)), .val (.int sl21), .val (.ref bz27), .val (.ref bz40), .val (.ref bz55), .val (.ref bz72), .val (.int ks), .val (own_pr (((p3.toUInt32 >>> ((2 : Int32) &&& 31).toUInt32).toInt32) &&& (3 : Int32)) bz27 bz40), .val (.int ks2), .val (own_pr (((p3.toUInt32 >>> ((6 : Int32) &&& 31).toUInt32).toInt32) &&& (3 : Int32)) bz27 bz40), .val (.int qs), .val (own_pr (((p3.toUInt32 >>> ((10 : Int32) &&& 31).toUInt32).toInt32) &&& (3 : Int32)) bz27 bz40), .val (own_val qs (own_pr (((p3.toUInt32 >>> ((10 : Int32) &&& 31).toUInt32).toInt32) &&& (3 : Int32)) bz27 bz40) (fun _ => .null) (fun _ => .null)), .val (own_val qs (own_pr (((p3.toUInt32 >>> ((10 : Int32) &&& 31).toUInt32).toInt32) &&& (3 : Int32)) bz27 bz40) (own_kp ks2 (own_pr (((p3.toUInt32 >>> ((6 : Int32) &&& 31).toUInt32).toInt32) &&& (3 : Int32)) bz27 bz40) (own_kp ks (own_pr (((p3.toUInt32 >>> ((2 : Int32) &&& 31).toUInt32).toInt32) &&& (3 : Int32)) bz27 bz40) (fun _ => .null))) (own_kp ks2 (.ref bz72) (own_kp ks (.ref bz55) (fun _ => .null)))), .val .null] [(.ref bz55)])) _
                refine XS.astore X136.here hx rfl (hb hby at_257) rfl rfl (l' := #[.val (.int p1), .val (.int p2), .val (.int p3), .val (.ref bz1), .val (.ref bz8), .val (.int (0 : Int32)), .val (.int sl21), .val (.ref bz27), .val (.ref bz40), .val (.ref bz55), .val (.ref bz72), .val (.int ks), .val (own_pr (((p3.toUInt32 >>> ((2 : Int32) &&& 31).toUInt32).toInt32) &&& (3 : Int32)) bz27 bz40), .val (.int ks2), .val (own_pr (((p3.toUInt32 >>> ((6 : Int32) &&& 31).toUInt32).toInt32) &&& (3 : Int32)) bz27 bz40), .val (.int qs), .val (own_pr (((p3.toUInt32 >>> ((10 : Int32) &&& 31).toUInt32).toInt32) &&& (3 : Int32)) bz27 bz40), .val (own_val qs (own_pr (((p3.toUInt32 >>> ((10 : Int32) &&& 31).toUInt32).toInt32) &&& (3 : Int32)) bz27 bz40) (fun _ => .null) (fun _ => .null)), .val (own_val qs (own_pr (((p3.toUInt32 >>> ((10 : Int32) &&& 31).toUInt32).toInt32) &&& (3 : Int32)) bz27 bz40) (own_kp ks2 (own_pr (((p3.toUInt32 >>> ((6 : Int32) &&& 31).toUInt32).toInt32) &&& (3 : Int32)) bz27 bz40) (own_kp ks (own_pr (((p3.toUInt32 >>> ((2 : Int32) &&& 31).toUInt32).toInt32) &&& (3 : Int32)) bz27 bz40) (fun _ => .null))) (own_kp ks2 (.ref bz72) (own_kp ks (.ref bz55) (fun _ => .null)))), .val (.ref bz55)]) rfl ?_
                exact k
              · rw [if_neg hs248] at k
                refine XT.acmpYes X136.here hx rfl (pc0 := 248) (pc' := 256) rfl (hb hby at_248) rfl (own_prR _ _ _) (own_prR _ _ _) (XT.aa_ne_t hs248) (by decide) (by decide) ?_
                show Steps p.tables e below (T136.setTop (mkF m 256 #[.val (.int p1), .val (.int p2), .val (.int p3), .val (.ref bz1), .val (.ref bz8), .val (.int (0 : Int32)), .val (.int sl21), .val (.ref bz27), .val (.ref bz40), .val (.ref bz55), .val (.ref bz72), .val (.int ks), .val (own_pr (((p3.toUInt32 >>> ((2 : Int32) &&& 31).toUInt32).toInt32) &&& (3 : Int32)) bz27 bz40), .val (.int ks2), .val (own_pr (((p3.toUInt32 >>> ((6 : Int32) &&& 31).toUInt32).toInt32) &&& (3 : Int32)) bz27 bz40), .val (.int qs), .val (own_pr (((p3.toUInt32 >>> ((10 : Int32) &&& 31).toUInt32).toInt32) &&& (3 : Int32)) bz27 bz40), .val (own_val qs (own_pr (((p3.toUInt32 >>> ((10 : Int32) &&& 31).toUInt32).toInt32) &&& (3 : Int32)) bz27 bz40) (fun _ => .null) (fun _ => .null)), .val (own_val qs (own_pr (((p3.toUInt32 >>> ((10 : Int32) &&& 31).toUInt32).toInt32) &&& (3 : Int32)) bz27 bz40) (own_kp ks2 (own_pr (((p3.toUInt32 >>> ((6 : Int32) &&& 31).toUInt32).toInt32) &&& (3 : Int32)) bz27 bz40) (own_kp ks (own_pr (((p3.toUInt32 >>> ((2 : Int32) &&& 31).toUInt32).toInt32) &&& (3 : Int32)) bz27 bz40) (fun _ => .null))) (own_kp ks2 (.ref bz72) (own_kp ks (.ref bz55) (fun _ => .null)))), .val .null] [])) _
                refine XS.aconstNull X136.here hx rfl (hb hby at_256) ?_
                show Steps p.tables e below (T136.setTop (mkF m 257 #[.val (.int p1), .val (.int p2), .val (.int p3), .val (.ref bz1), .val (.ref bz8), .val (.int (0 : Int32)), .val (.int sl21), .val (.ref bz27), .val (.ref bz40), .val (.ref bz55), .val (.ref bz72), .val (.int ks), .val (own_pr (((p3.toUInt32 >>> ((2 : Int32) &&& 31).toUInt32).toInt32) &&& (3 : Int32)) bz27 bz40), .val (.int ks2), .val (own_pr (((p3.toUInt32 >>> ((6 : Int32) &&& 31).toUInt32).toInt32) &&& (3 : Int32)) bz27 bz40), .val (.int qs), .val (own_pr (((p3.toUInt32 >>> ((10 : Int32) &&& 31).toUInt32).toInt32) &&& (3 : Int32)) bz27 bz40), .val (own_val qs (own_pr (((p3.toUInt32 >>> ((10 : Int32) &&& 31).toUInt32).toInt32) &&& (3 : Int32)) bz27 bz40) (fun _ => .null) (fun _ => .null)), .val (own_val qs (own_pr (((p3.toUInt32 >>> ((10 : Int32) &&& 31).toUInt32).toInt32) &&& (3 : Int32)) bz27 bz40) (own_kp ks2 (own_pr (((p3.toUInt32 >>> ((6 : Int32) &&& 31).toUInt32).toInt32) &&& (3 : Int32)) bz27 bz40) (own_kp ks (own_pr (((p3.toUInt32 >>> ((2 : Int32) &&& 31).toUInt32).toInt32) &&& (3 : Int32)) bz27 bz40) (fun _ => .null))) (own_kp ks2 (.ref bz72) (own_kp ks (.ref bz55) (fun _ => .null)))), .val .null] [.null])) _
                refine XS.astore X136.here hx rfl (hb hby at_257) rfl rfl (l' := #[.val (.int p1), .val (.int p2), .val (.int p3), .val (.ref bz1), .val (.ref bz8), .val (.int (0 : Int32)), .val (.int sl21), .val (.ref bz27), .val (.ref bz40), .val (.ref bz55), .val (.ref bz72), .val (.int ks), .val (own_pr (((p3.toUInt32 >>> ((2 : Int32) &&& 31).toUInt32).toInt32) &&& (3 : Int32)) bz27 bz40), .val (.int ks2), .val (own_pr (((p3.toUInt32 >>> ((6 : Int32) &&& 31).toUInt32).toInt32) &&& (3 : Int32)) bz27 bz40), .val (.int qs), .val (own_pr (((p3.toUInt32 >>> ((10 : Int32) &&& 31).toUInt32).toInt32) &&& (3 : Int32)) bz27 bz40), .val (own_val qs (own_pr (((p3.toUInt32 >>> ((10 : Int32) &&& 31).toUInt32).toInt32) &&& (3 : Int32)) bz27 bz40) (fun _ => .null) (fun _ => .null)), .val (own_val qs (own_pr (((p3.toUInt32 >>> ((10 : Int32) &&& 31).toUInt32).toInt32) &&& (3 : Int32)) bz27 bz40) (own_kp ks2 (own_pr (((p3.toUInt32 >>> ((6 : Int32) &&& 31).toUInt32).toInt32) &&& (3 : Int32)) bz27 bz40) (own_kp ks (own_pr (((p3.toUInt32 >>> ((2 : Int32) &&& 31).toUInt32).toInt32) &&& (3 : Int32)) bz27 bz40) (fun _ => .null))) (own_kp ks2 (.ref bz72) (own_kp ks (.ref bz55) (fun _ => .null)))), .val .null]) rfl ?_
                exact k
            · rw [if_neg hs241] at k
              refine XS.icmpYes X136.here hx rfl (pc0 := 241) (pc' := 259) rfl (hb hby at_241) rfl (XT.ii_ne_t hs241) (by decide) (by decide) ?_
              exact k
  have hr_ex : ex.isRef = true := by rw [hvz137]; (repeat' split) <;> rfl
  refine OGo.st st137 ?_
  show OGo p.tables e below _ (T136.setTop (mkF m 259 #[.val (.int p1), .val (.int p2), .val (.int p3), .val (.ref bz1), .val (.ref bz8), .val (.int (0 : Int32)), .val (.int sl21), .val (.ref bz27), .val (.ref bz40), .val (.ref bz55), .val (.ref bz72), .val (.int ks), .val (own_pr (((p3.toUInt32 >>> ((2 : Int32) &&& 31).toUInt32).toInt32) &&& (3 : Int32)) bz27 bz40), .val (.int ks2), .val (own_pr (((p3.toUInt32 >>> ((6 : Int32) &&& 31).toUInt32).toInt32) &&& (3 : Int32)) bz27 bz40), .val (.int qs), .val (own_pr (((p3.toUInt32 >>> ((10 : Int32) &&& 31).toUInt32).toInt32) &&& (3 : Int32)) bz27 bz40), .val (own_val qs (own_pr (((p3.toUInt32 >>> ((10 : Int32) &&& 31).toUInt32).toInt32) &&& (3 : Int32)) bz27 bz40) (fun _ => .null) (fun _ => .null)), .val (own_val qs (own_pr (((p3.toUInt32 >>> ((10 : Int32) &&& 31).toUInt32).toInt32) &&& (3 : Int32)) bz27 bz40) (own_kp ks2 (own_pr (((p3.toUInt32 >>> ((6 : Int32) &&& 31).toUInt32).toInt32) &&& (3 : Int32)) bz27 bz40) (own_kp ks (own_pr (((p3.toUInt32 >>> ((2 : Int32) &&& 31).toUInt32).toInt32) &&& (3 : Int32)) bz27 bz40) (fun _ => .null))) (own_kp ks2 (.ref bz72) (own_kp ks (.ref bz55) (fun _ => .null)))), .val ex] []))
  refine OGo.st (fun _ k_ => XS.aload X136.here hx rfl (hb hby at_259) rfl hrv97 k_) ?_
  show OGo p.tables e below _ (T136.setTop (mkF m 261 #[.val (.int p1), .val (.int p2), .val (.int p3), .val (.ref bz1), .val (.ref bz8), .val (.int (0 : Int32)), .val (.int sl21), .val (.ref bz27), .val (.ref bz40), .val (.ref bz55), .val (.ref bz72), .val (.int ks), .val (own_pr (((p3.toUInt32 >>> ((2 : Int32) &&& 31).toUInt32).toInt32) &&& (3 : Int32)) bz27 bz40), .val (.int ks2), .val (own_pr (((p3.toUInt32 >>> ((6 : Int32) &&& 31).toUInt32).toInt32) &&& (3 : Int32)) bz27 bz40), .val (.int qs), .val (own_pr (((p3.toUInt32 >>> ((10 : Int32) &&& 31).toUInt32).toInt32) &&& (3 : Int32)) bz27 bz40), .val (own_val qs (own_pr (((p3.toUInt32 >>> ((10 : Int32) &&& 31).toUInt32).toInt32) &&& (3 : Int32)) bz27 bz40) (fun _ => .null) (fun _ => .null)), .val (own_val qs (own_pr (((p3.toUInt32 >>> ((10 : Int32) &&& 31).toUInt32).toInt32) &&& (3 : Int32)) bz27 bz40) (own_kp ks2 (own_pr (((p3.toUInt32 >>> ((6 : Int32) &&& 31).toUInt32).toInt32) &&& (3 : Int32)) bz27 bz40) (own_kp ks (own_pr (((p3.toUInt32 >>> ((2 : Int32) &&& 31).toUInt32).toInt32) &&& (3 : Int32)) bz27 bz40) (fun _ => .null))) (own_kp ks2 (.ref bz72) (own_kp ks (.ref bz55) (fun _ => .null)))), .val ex] [(own_val qs (own_pr (((p3.toUInt32 >>> ((10 : Int32) &&& 31).toUInt32).toInt32) &&& (3 : Int32)) bz27 bz40) (fun _ => .null) (fun _ => .null))]))
  refine OGo.st (fun _ k_ => XT.nonnullNo X136.here hx rfl (hb hby at_261) rfl (own_before _ _) k_) ?_
  show OGo p.tables e below _ (T136.setTop (mkF m 264 #[.val (.int p1), .val (.int p2), .val (.int p3), .val (.ref bz1), .val (.ref bz8), .val (.int (0 : Int32)), .val (.int sl21), .val (.ref bz27), .val (.ref bz40), .val (.ref bz55), .val (.ref bz72), .val (.int ks), .val (own_pr (((p3.toUInt32 >>> ((2 : Int32) &&& 31).toUInt32).toInt32) &&& (3 : Int32)) bz27 bz40), .val (.int ks2), .val (own_pr (((p3.toUInt32 >>> ((6 : Int32) &&& 31).toUInt32).toInt32) &&& (3 : Int32)) bz27 bz40), .val (.int qs), .val (own_pr (((p3.toUInt32 >>> ((10 : Int32) &&& 31).toUInt32).toInt32) &&& (3 : Int32)) bz27 bz40), .val (own_val qs (own_pr (((p3.toUInt32 >>> ((10 : Int32) &&& 31).toUInt32).toInt32) &&& (3 : Int32)) bz27 bz40) (fun _ => .null) (fun _ => .null)), .val (own_val qs (own_pr (((p3.toUInt32 >>> ((10 : Int32) &&& 31).toUInt32).toInt32) &&& (3 : Int32)) bz27 bz40) (own_kp ks2 (own_pr (((p3.toUInt32 >>> ((6 : Int32) &&& 31).toUInt32).toInt32) &&& (3 : Int32)) bz27 bz40) (own_kp ks (own_pr (((p3.toUInt32 >>> ((2 : Int32) &&& 31).toUInt32).toInt32) &&& (3 : Int32)) bz27 bz40) (fun _ => .null))) (own_kp ks2 (.ref bz72) (own_kp ks (.ref bz55) (fun _ => .null)))), .val ex] []))
  refine OGo.st (fun _ k_ => XS.aload X136.here hx rfl (hb hby at_264) rfl hrv136 k_) ?_
  show OGo p.tables e below _ (T136.setTop (mkF m 266 #[.val (.int p1), .val (.int p2), .val (.int p3), .val (.ref bz1), .val (.ref bz8), .val (.int (0 : Int32)), .val (.int sl21), .val (.ref bz27), .val (.ref bz40), .val (.ref bz55), .val (.ref bz72), .val (.int ks), .val (own_pr (((p3.toUInt32 >>> ((2 : Int32) &&& 31).toUInt32).toInt32) &&& (3 : Int32)) bz27 bz40), .val (.int ks2), .val (own_pr (((p3.toUInt32 >>> ((6 : Int32) &&& 31).toUInt32).toInt32) &&& (3 : Int32)) bz27 bz40), .val (.int qs), .val (own_pr (((p3.toUInt32 >>> ((10 : Int32) &&& 31).toUInt32).toInt32) &&& (3 : Int32)) bz27 bz40), .val (own_val qs (own_pr (((p3.toUInt32 >>> ((10 : Int32) &&& 31).toUInt32).toInt32) &&& (3 : Int32)) bz27 bz40) (fun _ => .null) (fun _ => .null)), .val (own_val qs (own_pr (((p3.toUInt32 >>> ((10 : Int32) &&& 31).toUInt32).toInt32) &&& (3 : Int32)) bz27 bz40) (own_kp ks2 (own_pr (((p3.toUInt32 >>> ((6 : Int32) &&& 31).toUInt32).toInt32) &&& (3 : Int32)) bz27 bz40) (own_kp ks (own_pr (((p3.toUInt32 >>> ((2 : Int32) &&& 31).toUInt32).toInt32) &&& (3 : Int32)) bz27 bz40) (fun _ => .null))) (own_kp ks2 (.ref bz72) (own_kp ks (.ref bz55) (fun _ => .null)))), .val ex] [(own_val qs (own_pr (((p3.toUInt32 >>> ((10 : Int32) &&& 31).toUInt32).toInt32) &&& (3 : Int32)) bz27 bz40) (own_kp ks2 (own_pr (((p3.toUInt32 >>> ((6 : Int32) &&& 31).toUInt32).toInt32) &&& (3 : Int32)) bz27 bz40) (own_kp ks (own_pr (((p3.toUInt32 >>> ((2 : Int32) &&& 31).toUInt32).toInt32) &&& (3 : Int32)) bz27 bz40) (fun _ => .null))) (own_kp ks2 (.ref bz72) (own_kp ks (.ref bz55) (fun _ => .null))))]))
  refine OGo.st (fun _ k_ => XS.aload X136.here hx rfl (hb hby at_266) rfl hr_ex k_) ?_
  show OGo p.tables e below _ (T136.setTop (mkF m 268 #[.val (.int p1), .val (.int p2), .val (.int p3), .val (.ref bz1), .val (.ref bz8), .val (.int (0 : Int32)), .val (.int sl21), .val (.ref bz27), .val (.ref bz40), .val (.ref bz55), .val (.ref bz72), .val (.int ks), .val (own_pr (((p3.toUInt32 >>> ((2 : Int32) &&& 31).toUInt32).toInt32) &&& (3 : Int32)) bz27 bz40), .val (.int ks2), .val (own_pr (((p3.toUInt32 >>> ((6 : Int32) &&& 31).toUInt32).toInt32) &&& (3 : Int32)) bz27 bz40), .val (.int qs), .val (own_pr (((p3.toUInt32 >>> ((10 : Int32) &&& 31).toUInt32).toInt32) &&& (3 : Int32)) bz27 bz40), .val (own_val qs (own_pr (((p3.toUInt32 >>> ((10 : Int32) &&& 31).toUInt32).toInt32) &&& (3 : Int32)) bz27 bz40) (fun _ => .null) (fun _ => .null)), .val (own_val qs (own_pr (((p3.toUInt32 >>> ((10 : Int32) &&& 31).toUInt32).toInt32) &&& (3 : Int32)) bz27 bz40) (own_kp ks2 (own_pr (((p3.toUInt32 >>> ((6 : Int32) &&& 31).toUInt32).toInt32) &&& (3 : Int32)) bz27 bz40) (own_kp ks (own_pr (((p3.toUInt32 >>> ((2 : Int32) &&& 31).toUInt32).toInt32) &&& (3 : Int32)) bz27 bz40) (fun _ => .null))) (own_kp ks2 (.ref bz72) (own_kp ks (.ref bz55) (fun _ => .null)))), .val ex] [ex, (own_val qs (own_pr (((p3.toUInt32 >>> ((10 : Int32) &&& 31).toUInt32).toInt32) &&& (3 : Int32)) bz27 bz40) (own_kp ks2 (own_pr (((p3.toUInt32 >>> ((6 : Int32) &&& 31).toUInt32).toInt32) &&& (3 : Int32)) bz27 bz40) (own_kp ks (own_pr (((p3.toUInt32 >>> ((2 : Int32) &&& 31).toUInt32).toInt32) &&& (3 : Int32)) bz27 bz40) (fun _ => .null))) (own_kp ks2 (.ref bz72) (own_kp ks (.ref bz55) (fun _ => .null))))]))
  refine OGo.st (fun _ k_ => XT.acmpNo X136.here hx rfl (hb hby at_268) rfl hrv136 hr_ex (XT.aa_ne_f (own_after hks_ hks2_ hqs_ hvz137)) k_) ?_
  show OGo p.tables e below _ (T136.setTop (mkF m 271 #[.val (.int p1), .val (.int p2), .val (.int p3), .val (.ref bz1), .val (.ref bz8), .val (.int (0 : Int32)), .val (.int sl21), .val (.ref bz27), .val (.ref bz40), .val (.ref bz55), .val (.ref bz72), .val (.int ks), .val (own_pr (((p3.toUInt32 >>> ((2 : Int32) &&& 31).toUInt32).toInt32) &&& (3 : Int32)) bz27 bz40), .val (.int ks2), .val (own_pr (((p3.toUInt32 >>> ((6 : Int32) &&& 31).toUInt32).toInt32) &&& (3 : Int32)) bz27 bz40), .val (.int qs), .val (own_pr (((p3.toUInt32 >>> ((10 : Int32) &&& 31).toUInt32).toInt32) &&& (3 : Int32)) bz27 bz40), .val (own_val qs (own_pr (((p3.toUInt32 >>> ((10 : Int32) &&& 31).toUInt32).toInt32) &&& (3 : Int32)) bz27 bz40) (fun _ => .null) (fun _ => .null)), .val (own_val qs (own_pr (((p3.toUInt32 >>> ((10 : Int32) &&& 31).toUInt32).toInt32) &&& (3 : Int32)) bz27 bz40) (own_kp ks2 (own_pr (((p3.toUInt32 >>> ((6 : Int32) &&& 31).toUInt32).toInt32) &&& (3 : Int32)) bz27 bz40) (own_kp ks (own_pr (((p3.toUInt32 >>> ((2 : Int32) &&& 31).toUInt32).toInt32) &&& (3 : Int32)) bz27 bz40) (fun _ => .null))) (own_kp ks2 (.ref bz72) (own_kp ks (.ref bz55) (fun _ => .null)))), .val ex] []))
  refine OGo.st (fun _ k_ => XS.iconst X136.here hx rfl (hb hby at_271) k_) ?_
  show OGo p.tables e below _ (T136.setTop (mkF m 272 #[.val (.int p1), .val (.int p2), .val (.int p3), .val (.ref bz1), .val (.ref bz8), .val (.int (0 : Int32)), .val (.int sl21), .val (.ref bz27), .val (.ref bz40), .val (.ref bz55), .val (.ref bz72), .val (.int ks), .val (own_pr (((p3.toUInt32 >>> ((2 : Int32) &&& 31).toUInt32).toInt32) &&& (3 : Int32)) bz27 bz40), .val (.int ks2), .val (own_pr (((p3.toUInt32 >>> ((6 : Int32) &&& 31).toUInt32).toInt32) &&& (3 : Int32)) bz27 bz40), .val (.int qs), .val (own_pr (((p3.toUInt32 >>> ((10 : Int32) &&& 31).toUInt32).toInt32) &&& (3 : Int32)) bz27 bz40), .val (own_val qs (own_pr (((p3.toUInt32 >>> ((10 : Int32) &&& 31).toUInt32).toInt32) &&& (3 : Int32)) bz27 bz40) (fun _ => .null) (fun _ => .null)), .val (own_val qs (own_pr (((p3.toUInt32 >>> ((10 : Int32) &&& 31).toUInt32).toInt32) &&& (3 : Int32)) bz27 bz40) (own_kp ks2 (own_pr (((p3.toUInt32 >>> ((6 : Int32) &&& 31).toUInt32).toInt32) &&& (3 : Int32)) bz27 bz40) (own_kp ks (own_pr (((p3.toUInt32 >>> ((2 : Int32) &&& 31).toUInt32).toInt32) &&& (3 : Int32)) bz27 bz40) (fun _ => .null))) (own_kp ks2 (.ref bz72) (own_kp ks (.ref bz55) (fun _ => .null)))), .val ex] [(.int (1 : Int32))]))
  refine OGo.st (fun _ k_ => XS.goto X136.here hx rfl (pc0 := 272) (pc' := 276) rfl (hb hby at_272) (by decide) (by decide) k_) ?_
  show OGo p.tables e below _ (T136.setTop (mkF m 276 #[.val (.int p1), .val (.int p2), .val (.int p3), .val (.ref bz1), .val (.ref bz8), .val (.int (0 : Int32)), .val (.int sl21), .val (.ref bz27), .val (.ref bz40), .val (.ref bz55), .val (.ref bz72), .val (.int ks), .val (own_pr (((p3.toUInt32 >>> ((2 : Int32) &&& 31).toUInt32).toInt32) &&& (3 : Int32)) bz27 bz40), .val (.int ks2), .val (own_pr (((p3.toUInt32 >>> ((6 : Int32) &&& 31).toUInt32).toInt32) &&& (3 : Int32)) bz27 bz40), .val (.int qs), .val (own_pr (((p3.toUInt32 >>> ((10 : Int32) &&& 31).toUInt32).toInt32) &&& (3 : Int32)) bz27 bz40), .val (own_val qs (own_pr (((p3.toUInt32 >>> ((10 : Int32) &&& 31).toUInt32).toInt32) &&& (3 : Int32)) bz27 bz40) (fun _ => .null) (fun _ => .null)), .val (own_val qs (own_pr (((p3.toUInt32 >>> ((10 : Int32) &&& 31).toUInt32).toInt32) &&& (3 : Int32)) bz27 bz40) (own_kp ks2 (own_pr (((p3.toUInt32 >>> ((6 : Int32) &&& 31).toUInt32).toInt32) &&& (3 : Int32)) bz27 bz40) (own_kp ks (own_pr (((p3.toUInt32 >>> ((2 : Int32) &&& 31).toUInt32).toInt32) &&& (3 : Int32)) bz27 bz40) (fun _ => .null))) (own_kp ks2 (.ref bz72) (own_kp ks (.ref bz55) (fun _ => .null)))), .val ex] [(.int (1 : Int32))]))
  refine OGo.fin X136 (v := some (.int (1 : Int32))) (fun h => by rw [Bd.returns] at h; cases h) hlk (fun fs hr => X136.ireturnOut hx Bd.returns rfl (by simp) (hb hby at_276) hr) ?_ (by decide) (by decide)
  show own_Q_rm0 Z p1 p2 p3 h0 n0 _ T136.heap _
  rw [ez136]
  exact ⟨rfl, N136⟩
set_option maxRecDepth 65536 in
set_option maxHeartbeats 40000000 in
theorem comes_1 {Post : Tables → Env → Array Value → State → Outcome → State → Prop} (hpost : ∀ tb e args s v u, (limb_1_1.after args s (.returned v) u = true ∧ limb_1_2.after args s (.returned v) u = true ∧ True) → FrameEnd s (.returned v) u (Jvm.fieldLocs frame_1_writes args s ++ Jvm.arrayLocs frame_1_arrays args s ++ Jvm.staticLocs frame_1_statics s) 40 8320 → Post tb e args s (.returned v) u) :
    ArmFor flags0 classFile x code maxLocals ret World_1 tables_1 room_1 Calls_1 rest_1 Pre_1 Post := by
  intro l hfl _ _ p e ha hc hk s m args below hf hA hF happ hP
  obtain ⟨hcalls, hrest, hpre⟩ := hP
  obtain ⟨-, -, -, hnamed, -, -, -, hat⟩ := (Spec.applies_iff hf).mp happ
  obtain ⟨hg, hn⟩ := and_e (Cond.before_iff.mp (show (Jvm.Cond.and given_1 narrow_1).before args s = true from hpre))
  obtain ⟨g0, r0⟩ := and_e hg
  obtain ⟨a0, r1⟩ := and_e r0
  obtain ⟨a1, r2⟩ := and_e r1
  obtain ⟨w0, w1, w2, rfl⟩ : ∃ w0 w1 w2 : Value, args = #[w0, w1, w2] := by
    have hs : args.size = 3 := by simpa [Cond.value, given_1] using g0
    obtain ⟨L⟩ := args
    match L, hs with
    | [w0, w1, w2], _ => exact ⟨w0, w1, w2, rfl⟩
  have hw := fun d (hd : d ∈ tables_1) => atoms_spec (ws := Jvm.Cond.code x code maxLocals ret :: tables_1) hat d (List.mem_cons_of_mem _ hd)
  have hfit : Fit s := fun {y c} hc i hi => by
    obtain ⟨ha, rfl⟩ := Array.getElem?_eq_some_iff.mp hc
    have q := List.all_eq_true.mp ((Array.all_eq_true_iff_forall_mem.mp hF) _ (Array.getElem_mem ha)) i (List.mem_range.mpr hi)
    simpa [Array.getElem?_eq_getElem hi] using q
  obtain ⟨i0, ei0⟩ := is_v a0
  obtain rfl : w0 = (.int i0) := Option.some.inj ei0
  obtain ⟨i1, ei1⟩ := is_v a1
  obtain rfl : w1 = (.int i1) := Option.some.inj ei1
  obtain ⟨i2, ei2⟩ := is_v r2
  obtain rfl : w2 = (.int i2) := Option.some.inj ei2
  obtain ⟨n, o, h1, h2, h3, _, L, rfl, ⟨rfl, N⟩, hq⟩ := rm0 l s _ hw tables_1 i0 i1 i2  s.heap s.heap.size (Nat.le_refl _)  p e ha hc hk s m _ below hf ((Spec.applies_iff_loose hf).mp happ).1 ⟨rfl, State.Warmed39.refl s, rfl⟩ trivial
  refine ⟨n, _, h1, h2, h3, hpost _ _ _ _ _ _ ⟨Cond.after_iff.mpr rfl, Cond.after_iff.mpr (eq_i res_at (Term.int_eval (1)) rfl), trivial⟩ ⟨hq.1, hq.2.1, (hq.2.2.sift fun y hy => Or.inr (N y hy)).mono (by decide) (by decide)⟩⟩
theorem main_1_1 : Claimed_1_1 := comes_1 fun _ _ _ _ _ _ h hF => ⟨h.1, hF⟩
theorem main_1_2 : Claimed_1_2 := comes_1 fun _ _ _ _ _ _ h hF => ⟨h.2.1, hF⟩
end Jvm.Pilot.@@N@@
namespace Jvm.Pilot.@@N@@
open Jvm Jvm.ClassFile Sem Op Lib Jvm.Free Jvm.Stand Jvm.Pilot.@@N@@.Jvm.D
/-! MADE BY PROGRAM (witnessworld.py) out of the Statement's table words and the real class files: 18 classes; the members and pool entries that the words name. The judged class is class 1, her method 3. -/
namespace start1
open Jvm.ClassFile
def u (s : String) : CpInfo := .utf8 (stringToUtf16 s)
/-- a pool by its gaps: so many unusable entries, then the entry; so many at the end -/
def gap : Nat → List CpInfo → List CpInfo
  | 0, r => r
  | n + 1, r => .unusable :: gap n r
def poolList (es : List (Nat × CpInfo)) (last : Nat) : List CpInfo := es.foldr (fun e r => gap e.1 (e.2 :: r)) (gap last [])
def pool (es : List (Nat × CpInfo)) (last : Nat) : Array CpInfo := ⟨poolList es last⟩
def fileOf (pool : Array CpInfo) (this : Nat) (attrs : Array Attribute := #[]) (ms : Array MethodInfo := #[]) (fl : Nat := 33) (sup : Nat := 0) (ifs : Array Nat := #[]) (fds : Array FieldInfo := #[]) : ClassFile where
  minorVersion := 0
  majorVersion := 65
  constantPool := pool
  accessFlags := fl
  thisClass := this
  superClass := sup
  interfaces := ifs
  fields := fds
  methods := ms
  attributes := attrs
def plain (name : String) (sup : Option ClassId) : Class where
  name := name
  kind := .ordinary
  loader := none
  accessFlags := 33
  super := sup
  interfaces := #[]
  cf := none
  fields := #[]
  methods := #[]
  instanceTypes := #[]
  staticTypes := #[]
  resolved := #[]
  callSites := []
  init := .initialized
  statics := none
  mirror := none

def pool0 : Array CpInfo := pool [(5, u "<init>"), (0, u "()V"), (1, .class_ 10), (1, u "java/lang/Object")] 113

def k0c0 : Code := { maxStack := 0, maxLocals := 1, code := object_method_1_code, exceptionTable := #[], attributes := #[] }
def k0m0 : Method := { name := "<init>", desc := "()V", sig := { parameters := [], returnType := none }, accessFlags := 1, code := some k0c0 }
/-- java/lang/Object -/
def k0 : Class := { plain "java/lang/Object" none with
  accessFlags := 33
  interfaces := #[]
  cf := some (fileOf pool0 8 #[] #[{ accessFlags := 1, nameIndex := 5, descriptorIndex := 6, attributes := #[] }] 33 0 #[] #[])
  fields := #[]
  methods := #[k0m0]
  instanceTypes := #[]
  staticTypes := #[]
  resolved := Array.replicate 124 none
  statics := none }

def pool1 : Array CpInfo := pool [(2, .class_ 4), (1, u "java/lang/Object"), (0, u "<init>"), (0, u "()V"), (0, .class_ 8), (0, u "com/example/nodal_ledger/nodalledger/csv/DistinctFields"), (0, .methodref 7 10), (0, .nameAndType 5 11), (0, u "([B)V"), (0, .methodref 7 13), (0, .nameAndType 14 15), (0, u "slot"), (0, u "(II)I"), (0, .methodref 17 18), (0, .class_ 19), (0, .nameAndType 20 21), (0, u "com/example/nodal_ledger/nodalledger/csv/DistinctFieldsValuePinLaw"), (0, u "pickSlot"), (0, u "(III)I"), (0, .methodref 17 23), (0, .nameAndType 24 25), (0, u "pickReading"), (0, u "(ILjava/lang/Object;Ljava/lang/Object;)Ljava/lang/Object;"), (0, .methodref 7 27), (0, .nameAndType 28 29), (0, u "value"), (0, u "(ILjava/lang/Object;)Ljava/lang/Object;"), (0, .methodref 7 31), (0, .nameAndType 32 33), (0, u "keep"), (0, u "(ILjava/lang/Object;Ljava/lang/Object;)V"), (3, u "law"), (0, u "(III)Z")] 4

def k1m0 : Method := { name := "<init>", desc := "()V", sig := { parameters := [], returnType := none }, accessFlags := 1, code := none }
def k1c1 : Code := { maxStack := 2, maxLocals := 3, code := method_2_code, exceptionTable := #[], attributes := #[] }
def k1m1 : Method := { name := "pickSlot", desc := "(III)I", sig := { parameters := [.int, .int, .int], returnType := some .int }, accessFlags := 10, code := some k1c1 }
def k1c2 : Code := { maxStack := 2, maxLocals := 3, code := method_3_code, exceptionTable := #[], attributes := #[] }
def k1m2 : Method := { name := "pickReading", desc := "(ILjava/lang/Object;Ljava/lang/Object;)Ljava/lang/Object;", sig := { parameters := [.int, (.object "java/lang/Object"), (.object "java/lang/Object")], returnType := some (.object "java/lang/Object") }, accessFlags := 10, code := some k1c2 }
def k1c3 : Code := { maxStack := 4, maxLocals := 20, code := code, exceptionTable := #[], attributes := #[] }
def k1m3 : Method := { name := "law", desc := "(III)Z", sig := { parameters := [.int, .int, .int], returnType := some .boolean }, accessFlags := 9, code := some k1c3 }
/-- com/example/nodal_ledger/nodalledger/csv/DistinctFieldsValuePinLaw -/
def k1 : Class := { plain "com/example/nodal_ledger/nodalledger/csv/DistinctFieldsValuePinLaw" (some 0) with
  accessFlags := 49
  interfaces := #[]
  cf := some (fileOf pool1 17 #[] #[{ accessFlags := 1, nameIndex := 5, descriptorIndex := 6, attributes := #[] }, { accessFlags := 10, nameIndex := 20, descriptorIndex := 21, attributes := #[] }, { accessFlags := 10, nameIndex := 24, descriptorIndex := 25, attributes := #[] }, { accessFlags := 9, nameIndex := 37, descriptorIndex := 38, attributes := #[] }] 49 2 #[] #[])
  fields := #[]
  methods := #[k1m0, k1m1, k1m2, k1m3]
  instanceTypes := #[]
  staticTypes := #[]
  resolved := Array.replicate 43 none
  statics := none }

def pool2 : Array CpInfo := pool [(1, .methodref 2 3), (0, .class_ 4), (0, .nameAndType 5 6), (0, u "java/lang/Object"), (0, u "<init>"), (0, u "()V"), (0, .class_ 8), (0, u "com/example/nodal_ledger/nodalledger/csv/DistinctFields"), (0, .fieldref 7 10), (0, .nameAndType 11 12), (0, u "table"), (0, u "[I"), (0, .fieldref 7 14), (0, .nameAndType 15 12), (0, u "hashes"), (0, .fieldref 7 17), (0, .nameAndType 18 12), (0, u "starts"), (0, .fieldref 7 20), (0, .nameAndType 21 12), (0, u "ends"), (0, .class_ 23), (0, u "java/lang/String"), (0, .fieldref 7 25), (0, .nameAndType 26 27), (0, u "texts"), (0, u "[Ljava/lang/String;"), (0, .fieldref 7 29), (0, .nameAndType 30 31), (0, u "values"), (0, u "[Ljava/lang/Object;"), (0, .fieldref 7 33), (0, .nameAndType 34 31), (0, u "readings"), (0, .fieldref 7 36), (0, .nameAndType 37 38), (0, u "bytes"), (0, u "[B"), (0, .methodref 7 40), (0, .nameAndType 41 42), (0, u "slot"), (0, u "(III)I"), (0, .methodref 7 44), (0, .nameAndType 45 46), (0, u "spread"), (0, u "(I)I"), (0, .methodref 48 49), (0, .class_ 50), (0, .nameAndType 51 52), (0, u "java/util/Arrays"), (0, u "equals"), (0, u "([BII[BII)Z"), (0, .methodref 7 54), (0, .nameAndType 55 56), (0, u "added"), (0, u "(IIII)I"), (0, .fieldref 7 58), (0, .nameAndType 59 60), (0, u "count"), (0, u "I"), (0, .integer 65536), (23, u "MOST"), (1, u "NONE"), (1, u "TABLE_AT_FIRST"), (1, u "([B)V"), (2, u "(II)I"), (3, u "value"), (0, u "(ILjava/lang/Object;)Ljava/lang/Object;"), (0, u "keep"), (0, u "(ILjava/lang/Object;Ljava/lang/Object;)V")] 2

def k2c0 : Code := { maxStack := 2, maxLocals := 2, code := prog_9_method_1_code, exceptionTable := #[], attributes := #[] }
def k2m0 : Method := { name := "<init>", desc := "([B)V", sig := { parameters := [(.array .byte)], returnType := none }, accessFlags := 0, code := some k2c0 }
def k2c1 : Code := { maxStack := 4, maxLocals := 5, code := prog_9_method_2_code, exceptionTable := #[], attributes := #[] }
def k2m1 : Method := { name := "slot", desc := "(II)I", sig := { parameters := [.int, .int], returnType := some .int }, accessFlags := 0, code := some k2c1 }
def k2c2 : Code := { maxStack := 6, maxLocals := 7, code := prog_9_method_3_code, exceptionTable := #[], attributes := #[] }
def k2m2 : Method := { name := "slot", desc := "(III)I", sig := { parameters := [.int, .int, .int], returnType := some .int }, accessFlags := 2, code := some k2c2 }
def k2c3 : Code := { maxStack := 4, maxLocals := 6, code := prog_9_method_4_code, exceptionTable := #[], attributes := #[] }
def k2m3 : Method := { name := "added", desc := "(IIII)I", sig := { parameters := [.int, .int, .int, .int], returnType := some .int }, accessFlags := 2, code := some k2c3 }
def k2c4 : Code := { maxStack := 2, maxLocals := 3, code := prog_9_method_6_code, exceptionTable := #[], attributes := #[] }
def k2m4 : Method := { name := "value", desc := "(ILjava/lang/Object;)Ljava/lang/Object;", sig := { parameters := [.int, (.object "java/lang/Object")], returnType := some (.object "java/lang/Object") }, accessFlags := 0, code := some k2c4 }
def k2c5 : Code := { maxStack := 3, maxLocals := 4, code := prog_9_method_7_code, exceptionTable := #[], attributes := #[] }
def k2m5 : Method := { name := "keep", desc := "(ILjava/lang/Object;Ljava/lang/Object;)V", sig := { parameters := [.int, (.object "java/lang/Object"), (.object "java/lang/Object")], returnType := none }, accessFlags := 0, code := some k2c5 }
def k2c6 : Code := { maxStack := 3, maxLocals := 1, code := prog_9_method_10_code, exceptionTable := #[], attributes := #[] }
def k2m6 : Method := { name := "spread", desc := "(I)I", sig := { parameters := [.int], returnType := some .int }, accessFlags := 10, code := some k2c6 }
/-- com/example/nodal_ledger/nodalledger/csv/DistinctFields -/
def k2 : Class := { plain "com/example/nodal_ledger/nodalledger/csv/DistinctFields" (some 0) with
  accessFlags := 48
  interfaces := #[]
  cf := some (fileOf pool2 7 #[] #[{ accessFlags := 0, nameIndex := 5, descriptorIndex := 91, attributes := #[] }, { accessFlags := 0, nameIndex := 41, descriptorIndex := 94, attributes := #[] }, { accessFlags := 2, nameIndex := 41, descriptorIndex := 42, attributes := #[] }, { accessFlags := 2, nameIndex := 55, descriptorIndex := 56, attributes := #[] }, { accessFlags := 0, nameIndex := 98, descriptorIndex := 99, attributes := #[] }, { accessFlags := 0, nameIndex := 100, descriptorIndex := 101, attributes := #[] }, { accessFlags := 10, nameIndex := 45, descriptorIndex := 46, attributes := #[] }] 48 2 #[] #[{ accessFlags := 24, nameIndex := 85, descriptorIndex := 60, attributes := #[] }, { accessFlags := 24, nameIndex := 87, descriptorIndex := 60, attributes := #[] }, { accessFlags := 26, nameIndex := 89, descriptorIndex := 60, attributes := #[] }, { accessFlags := 18, nameIndex := 37, descriptorIndex := 38, attributes := #[] }, { accessFlags := 2, nameIndex := 11, descriptorIndex := 12, attributes := #[] }, { accessFlags := 2, nameIndex := 15, descriptorIndex := 12, attributes := #[] }, { accessFlags := 2, nameIndex := 18, descriptorIndex := 12, attributes := #[] }, { accessFlags := 2, nameIndex := 21, descriptorIndex := 12, attributes := #[] }, { accessFlags := 2, nameIndex := 26, descriptorIndex := 27, attributes := #[] }, { accessFlags := 2, nameIndex := 30, descriptorIndex := 31, attributes := #[] }, { accessFlags := 2, nameIndex := 34, descriptorIndex := 31, attributes := #[] }, { accessFlags := 2, nameIndex := 59, descriptorIndex := 60, attributes := #[] }])
  fields := #[{ name := "MOST", type := .int, accessFlags := 24, slot := 0, constantValue := 0 }, { name := "NONE", type := .int, accessFlags := 24, slot := 1, constantValue := 0 }, { name := "TABLE_AT_FIRST", type := .int, accessFlags := 26, slot := 2, constantValue := 0 }, { name := "bytes", type := (.array .byte), accessFlags := 18, slot := 0, constantValue := 0 }, { name := "table", type := (.array .int), accessFlags := 2, slot := 1, constantValue := 0 }, { name := "hashes", type := (.array .int), accessFlags := 2, slot := 2, constantValue := 0 }, { name := "starts", type := (.array .int), accessFlags := 2, slot := 3, constantValue := 0 }, { name := "ends", type := (.array .int), accessFlags := 2, slot := 4, constantValue := 0 }, { name := "texts", type := (.array (.object "java/lang/String")), accessFlags := 2, slot := 5, constantValue := 0 }, { name := "values", type := (.array (.object "java/lang/Object")), accessFlags := 2, slot := 6, constantValue := 0 }, { name := "readings", type := (.array (.object "java/lang/Object")), accessFlags := 2, slot := 7, constantValue := 0 }, { name := "count", type := .int, accessFlags := 2, slot := 8, constantValue := 0 }]
  methods := #[k2m0, k2m1, k2m2, k2m3, k2m4, k2m5, k2m6]
  instanceTypes := #[(.array .byte), (.array .int), (.array .int), (.array .int), (.array .int), (.array (.object "java/lang/String")), (.array (.object "java/lang/Object")), (.array (.object "java/lang/Object")), .int]
  staticTypes := #[.int, .int, .int]
  resolved := Array.replicate 104 none
  statics := none }

def pool3 : Array CpInfo := pool [(1, .class_ 2), (0, u "java/io/Serializable"), (0, .class_ 4), (0, u "java/lang/Object")] 2

/-- java/io/Serializable -/
def k3 : Class := { plain "java/io/Serializable" (some 0) with
  accessFlags := 1537
  interfaces := #[]
  cf := some (fileOf pool3 1 #[] #[] 1537 3 #[] #[])
  fields := #[]
  methods := #[]
  instanceTypes := #[]
  staticTypes := #[]
  resolved := Array.replicate 7 none
  statics := none }

def pool4 : Array CpInfo := pool [(1, .class_ 2), (0, u "java/lang/Comparable"), (0, .class_ 4), (0, u "java/lang/Object")] 7

/-- java/lang/Comparable -/
def k4 : Class := { plain "java/lang/Comparable" (some 0) with
  accessFlags := 1537
  interfaces := #[]
  cf := some (fileOf pool4 1 #[] #[] 1537 3 #[] #[])
  fields := #[]
  methods := #[]
  instanceTypes := #[]
  staticTypes := #[]
  resolved := Array.replicate 12 none
  statics := none }

def pool5 : Array CpInfo := pool [(2, .class_ 4), (1, u "java/lang/CharSequence"), (42, .class_ 48), (0, u "java/lang/CharSequence$1CodePointIterator"), (10, .class_ 60), (0, u "java/lang/CharSequence$1CharIterator"), (5, .class_ 67), (0, u "java/lang/Object")] 63

/-- java/lang/CharSequence -/
def k5 : Class := { plain "java/lang/CharSequence" (some 0) with
  accessFlags := 1537
  interfaces := #[]
  cf := some (fileOf pool5 2 #[.nestMembers #[47, 59]] #[] 1537 66 #[] #[])
  fields := #[]
  methods := #[]
  instanceTypes := #[]
  staticTypes := #[]
  resolved := Array.replicate 131 none
  statics := none }

def pool6 : Array CpInfo := pool [(1, .class_ 2), (0, u "java/lang/constant/Constable"), (0, .class_ 4), (0, u "java/lang/Object")] 6

/-- java/lang/constant/Constable -/
def k6 : Class := { plain "java/lang/constant/Constable" (some 0) with
  accessFlags := 1537
  interfaces := #[]
  cf := some (fileOf pool6 1 #[] #[] 1537 3 #[] #[])
  fields := #[]
  methods := #[]
  instanceTypes := #[]
  staticTypes := #[]
  resolved := Array.replicate 11 none
  statics := none }

def pool7 : Array CpInfo := pool [(1, .class_ 2), (0, u "java/lang/constant/ConstantDesc"), (0, .class_ 4), (0, u "java/lang/Object")] 32

/-- java/lang/constant/ConstantDesc -/
def k7 : Class := { plain "java/lang/constant/ConstantDesc" (some 0) with
  accessFlags := 1537
  interfaces := #[]
  cf := some (fileOf pool7 1 #[] #[] 1537 3 #[] #[])
  fields := #[]
  methods := #[]
  instanceTypes := #[]
  staticTypes := #[]
  resolved := Array.replicate 37 none
  statics := none }

def pool8 : Array CpInfo := pool [(2, .class_ 4), (1, u "java/lang/Object"), (0, u "<init>"), (0, u "()V"), (3, .class_ 12), (1, u "java/lang/String"), (0, u "value"), (0, u "[B"), (2, u "coder"), (0, u "B"), (2, u "hash"), (0, u "I"), (2, u "hashIsZero"), (0, u "Z"), (13, u "COMPACT_STRINGS"), (534, .class_ 576), (0, u "java/lang/CharSequence"), (22, u "CASE_INSENSITIVE_ORDER"), (0, u "Ljava/util/Comparator;"), (500, u "serialPersistentFields"), (0, u "[Ljava/io/ObjectStreamField;"), (0, .class_ 1104), (0, u "java/lang/String$CaseInsensitiveComparator"), (1, .class_ 1107), (0, u "java/io/Serializable"), (0, .class_ 1109), (0, u "java/lang/Comparable"), (0, .class_ 1111), (0, u "java/lang/constant/Constable"), (0, .class_ 1113), (0, u "java/lang/constant/ConstantDesc"), (2, u "serialVersionUID"), (0, u "J"), (3, u "REPL"), (0, u "C"), (2, u "LATIN1"), (1, u "UTF16")] 323

def k8m0 : Method := { name := "<init>", desc := "()V", sig := { parameters := [], returnType := none }, accessFlags := 1, code := none }
/-- java/lang/String -/
def k8 : Class := { plain "java/lang/String" (some 0) with
  accessFlags := 49
  interfaces := #[3, 4, 5, 6, 7]
  cf := some (fileOf pool8 10 #[.nestMembers #[1103]] #[{ accessFlags := 1, nameIndex := 5, descriptorIndex := 6, attributes := #[] }] 49 2 #[1106, 1108, 575, 1110, 1112] #[{ accessFlags := 18, nameIndex := 13, descriptorIndex := 14, attributes := #[] }, { accessFlags := 18, nameIndex := 17, descriptorIndex := 18, attributes := #[] }, { accessFlags := 2, nameIndex := 21, descriptorIndex := 22, attributes := #[] }, { accessFlags := 2, nameIndex := 25, descriptorIndex := 26, attributes := #[] }, { accessFlags := 26, nameIndex := 1116, descriptorIndex := 1117, attributes := #[] }, { accessFlags := 24, nameIndex := 40, descriptorIndex := 26, attributes := #[] }, { accessFlags := 26, nameIndex := 1101, descriptorIndex := 1102, attributes := #[] }, { accessFlags := 26, nameIndex := 1121, descriptorIndex := 1122, attributes := #[] }, { accessFlags := 25, nameIndex := 599, descriptorIndex := 600, attributes := #[] }, { accessFlags := 24, nameIndex := 1125, descriptorIndex := 18, attributes := #[] }, { accessFlags := 24, nameIndex := 1127, descriptorIndex := 18, attributes := #[] }])
  fields := #[{ name := "value", type := (.array .byte), accessFlags := 18, slot := 0, constantValue := 0 }, { name := "coder", type := .byte, accessFlags := 18, slot := 1, constantValue := 0 }, { name := "hash", type := .int, accessFlags := 2, slot := 2, constantValue := 0 }, { name := "hashIsZero", type := .boolean, accessFlags := 2, slot := 3, constantValue := 0 }, { name := "serialVersionUID", type := .long, accessFlags := 26, slot := 0, constantValue := 0 }, { name := "COMPACT_STRINGS", type := .boolean, accessFlags := 24, slot := 1, constantValue := 0 }, { name := "serialPersistentFields", type := (.array (.object "java/io/ObjectStreamField")), accessFlags := 26, slot := 2, constantValue := 0 }, { name := "REPL", type := .char, accessFlags := 26, slot := 3, constantValue := 0 }, { name := "CASE_INSENSITIVE_ORDER", type := (.object "java/util/Comparator"), accessFlags := 25, slot := 4, constantValue := 0 }, { name := "LATIN1", type := .byte, accessFlags := 24, slot := 5, constantValue := 0 }, { name := "UTF16", type := .byte, accessFlags := 24, slot := 6, constantValue := 0 }]
  methods := #[k8m0]
  instanceTypes := #[(.array .byte), .byte, .int, .boolean]
  staticTypes := #[.long, .boolean, (.array (.object "java/io/ObjectStreamField")), .char, (.object "java/util/Comparator"), .byte, .byte]
  resolved := Array.replicate 1451 none
  statics := none }

def pool9 : Array CpInfo := pool [(2, .class_ 4), (1, u "java/lang/Object"), (0, u "<init>"), (0, u "()V"), (6, .methodref 14 15), (0, .class_ 16), (0, .nameAndType 17 18), (0, u "java/util/Arrays"), (0, u "rangeCheck"), (0, u "(III)V"), (55, .class_ 76), (1, u "java/util/Arrays$NaturalOrder"), (36, .class_ 115), (1, u "java/util/Arrays$LegacyMergeSort"), (1, u "Z"), (128, .class_ 248), (1, u "jdk/internal/util/ArraysSupport"), (0, u "mismatch"), (25, .methodref 246 276), (0, .nameAndType 249 277), (0, u "([BI[BII)I"), (20, u "equals"), (76, .class_ 376), (0, u "java/util/Arrays$ArrayList"), (68, u "$assertionsDisabled"), (269, u "MIN_ARRAY_SORT_GRAN"), (0, u "I"), (2, u "INSERTIONSORT_THRESHOLD"), (111, u "([BII[BII)Z"), (143, .class_ 976), (0, u "java/util/Arrays$ArrayItr")] 52

def k9m0 : Method := { name := "<init>", desc := "()V", sig := { parameters := [], returnType := none }, accessFlags := 2, code := none }
def k9c1 : Code := { maxStack := 4, maxLocals := 3, code := jdk_65_method_30_code, exceptionTable := #[], attributes := #[] }
def k9m1 : Method := { name := "rangeCheck", desc := "(III)V", sig := { parameters := [.int, .int, .int], returnType := none }, accessFlags := 8, code := some k9c1 }
def k9c2 : Code := { maxStack := 5, maxLocals := 8, code := jdk_65_method_90_code, exceptionTable := #[], attributes := #[] }
def k9m2 : Method := { name := "equals", desc := "([BII[BII)Z", sig := { parameters := [(.array .byte), .int, .int, (.array .byte), .int, .int], returnType := some .boolean }, accessFlags := 9, code := some k9c2 }
/-- java/util/Arrays -/
def k9 : Class := { plain "java/util/Arrays" (some 0) with
  accessFlags := 49
  interfaces := #[]
  cf := some (fileOf pool9 14 #[.nestMembers #[975, 375, 113, 74]] #[{ accessFlags := 2, nameIndex := 5, descriptorIndex := 6, attributes := #[] }, { accessFlags := 8, nameIndex := 17, descriptorIndex := 18, attributes := #[] }, { accessFlags := 9, nameIndex := 298, descriptorIndex := 831, attributes := #[] }] 49 2 #[] #[{ accessFlags := 26, nameIndex := 715, descriptorIndex := 716, attributes := #[] }, { accessFlags := 26, nameIndex := 719, descriptorIndex := 716, attributes := #[] }, { accessFlags := 4120, nameIndex := 445, descriptorIndex := 117, attributes := #[] }])
  fields := #[{ name := "MIN_ARRAY_SORT_GRAN", type := .int, accessFlags := 26, slot := 0, constantValue := 0 }, { name := "INSERTIONSORT_THRESHOLD", type := .int, accessFlags := 26, slot := 1, constantValue := 0 }, { name := "$assertionsDisabled", type := .boolean, accessFlags := 4120, slot := 2, constantValue := 0 }]
  methods := #[k9m0, k9m1, k9m2]
  instanceTypes := #[]
  staticTypes := #[.int, .int, .boolean]
  resolved := Array.replicate 1029 none
  statics := none }

def pool10 : Array CpInfo := pool [(9, u "<init>"), (6, .class_ 18), (1, u "java/lang/Object"), (0, u "()V"), (1, .class_ 23), (1, u "jdk/internal/util/ArraysSupport"), (0, u "LOG2_ARRAY_LONG_INDEX_SCALE"), (0, u "I"), (2, u "U"), (0, u "Ljdk/internal/misc/Unsafe;"), (8, u "BIG_ENDIAN"), (0, u "Z"), (8, u "LOG2_BYTE_BIT_SIZE"), (4, u "LOG2_ARRAY_INT_INDEX_SCALE"), (54, u "JLA"), (0, u "Ljdk/internal/access/JavaLangAccess;"), (11, u "LOG2_ARRAY_BOOLEAN_INDEX_SCALE"), (9, u "LOG2_ARRAY_BYTE_INDEX_SCALE"), (5, u "LOG2_ARRAY_CHAR_INDEX_SCALE"), (5, u "LOG2_ARRAY_SHORT_INDEX_SCALE"), (5, u "mismatch"), (12, u "LOG2_ARRAY_FLOAT_INDEX_SCALE"), (24, u "LOG2_ARRAY_DOUBLE_INDEX_SCALE"), (89, u "T_BOOLEAN"), (2, u "T_CHAR"), (1, u "T_FLOAT"), (1, u "T_DOUBLE"), (1, u "T_BYTE"), (1, u "T_SHORT"), (1, u "T_INT"), (1, u "T_LONG"), (1, u "SOFT_MAX_ARRAY_LENGTH"), (42, u "([BI[BII)I")] 40

def k10m0 : Method := { name := "<init>", desc := "()V", sig := { parameters := [], returnType := none }, accessFlags := 2, code := none }
def k10c1 : Code := { maxStack := 8, maxLocals := 8, code := jdk_48_method_14_code, exceptionTable := #[], attributes := #[] }
def k10m1 : Method := { name := "mismatch", desc := "([BI[BII)I", sig := { parameters := [(.array .byte), .int, (.array .byte), .int, .int], returnType := some .int }, accessFlags := 9, code := some k10c1 }
/-- jdk/internal/util/ArraysSupport -/
def k10 : Class := { plain "jdk/internal/util/ArraysSupport" (some 0) with
  accessFlags := 33
  interfaces := #[]
  cf := some (fileOf pool10 21 #[] #[{ accessFlags := 2, nameIndex := 9, descriptorIndex := 19, attributes := #[] }, { accessFlags := 9, nameIndex := 149, descriptorIndex := 337, attributes := #[] }] 33 16 #[] #[{ accessFlags := 24, nameIndex := 28, descriptorIndex := 29, attributes := #[] }, { accessFlags := 26, nameIndex := 38, descriptorIndex := 39, attributes := #[] }, { accessFlags := 25, nameIndex := 121, descriptorIndex := 25, attributes := #[] }, { accessFlags := 25, nameIndex := 131, descriptorIndex := 25, attributes := #[] }, { accessFlags := 25, nameIndex := 137, descriptorIndex := 25, attributes := #[] }, { accessFlags := 25, nameIndex := 143, descriptorIndex := 25, attributes := #[] }, { accessFlags := 25, nameIndex := 53, descriptorIndex := 25, attributes := #[] }, { accessFlags := 25, nameIndex := 24, descriptorIndex := 25, attributes := #[] }, { accessFlags := 25, nameIndex := 162, descriptorIndex := 25, attributes := #[] }, { accessFlags := 25, nameIndex := 187, descriptorIndex := 25, attributes := #[] }, { accessFlags := 26, nameIndex := 48, descriptorIndex := 25, attributes := #[] }, { accessFlags := 25, nameIndex := 277, descriptorIndex := 25, attributes := #[] }, { accessFlags := 25, nameIndex := 280, descriptorIndex := 25, attributes := #[] }, { accessFlags := 25, nameIndex := 282, descriptorIndex := 25, attributes := #[] }, { accessFlags := 25, nameIndex := 284, descriptorIndex := 25, attributes := #[] }, { accessFlags := 25, nameIndex := 286, descriptorIndex := 25, attributes := #[] }, { accessFlags := 25, nameIndex := 288, descriptorIndex := 25, attributes := #[] }, { accessFlags := 25, nameIndex := 290, descriptorIndex := 25, attributes := #[] }, { accessFlags := 25, nameIndex := 292, descriptorIndex := 25, attributes := #[] }, { accessFlags := 26, nameIndex := 108, descriptorIndex := 109, attributes := #[] }, { accessFlags := 25, nameIndex := 294, descriptorIndex := 25, attributes := #[] }])
  fields := #[{ name := "U", type := (.object "jdk/internal/misc/Unsafe"), accessFlags := 24, slot := 0, constantValue := 0 }, { name := "BIG_ENDIAN", type := .boolean, accessFlags := 26, slot := 1, constantValue := 0 }, { name := "LOG2_ARRAY_BOOLEAN_INDEX_SCALE", type := .int, accessFlags := 25, slot := 2, constantValue := 0 }, { name := "LOG2_ARRAY_BYTE_INDEX_SCALE", type := .int, accessFlags := 25, slot := 3, constantValue := 0 }, { name := "LOG2_ARRAY_CHAR_INDEX_SCALE", type := .int, accessFlags := 25, slot := 4, constantValue := 0 }, { name := "LOG2_ARRAY_SHORT_INDEX_SCALE", type := .int, accessFlags := 25, slot := 5, constantValue := 0 }, { name := "LOG2_ARRAY_INT_INDEX_SCALE", type := .int, accessFlags := 25, slot := 6, constantValue := 0 }, { name := "LOG2_ARRAY_LONG_INDEX_SCALE", type := .int, accessFlags := 25, slot := 7, constantValue := 0 }, { name := "LOG2_ARRAY_FLOAT_INDEX_SCALE", type := .int, accessFlags := 25, slot := 8, constantValue := 0 }, { name := "LOG2_ARRAY_DOUBLE_INDEX_SCALE", type := .int, accessFlags := 25, slot := 9, constantValue := 0 }, { name := "LOG2_BYTE_BIT_SIZE", type := .int, accessFlags := 26, slot := 10, constantValue := 0 }, { name := "T_BOOLEAN", type := .int, accessFlags := 25, slot := 11, constantValue := 0 }, { name := "T_CHAR", type := .int, accessFlags := 25, slot := 12, constantValue := 0 }, { name := "T_FLOAT", type := .int, accessFlags := 25, slot := 13, constantValue := 0 }, { name := "T_DOUBLE", type := .int, accessFlags := 25, slot := 14, constantValue := 0 }, { name := "T_BYTE", type := .int, accessFlags := 25, slot := 15, constantValue := 0 }, { name := "T_SHORT", type := .int, accessFlags := 25, slot := 16, constantValue := 0 }, { name := "T_INT", type := .int, accessFlags := 25, slot := 17, constantValue := 0 }, { name := "T_LONG", type := .int, accessFlags := 25, slot := 18, constantValue := 0 }, { name := "JLA", type := (.object "jdk/internal/access/JavaLangAccess"), accessFlags := 26, slot := 19, constantValue := 0 }, { name := "SOFT_MAX_ARRAY_LENGTH", type := .int, accessFlags := 25, slot := 20, constantValue := 0 }]
  methods := #[k10m0, k10m1]
  instanceTypes := #[]
  staticTypes := #[(.object "jdk/internal/misc/Unsafe"), .boolean, .int, .int, .int, .int, .int, .int, .int, .int, .int, .int, .int, .int, .int, .int, .int, .int, .int, (.object "jdk/internal/access/JavaLangAccess"), .int]
  resolved := Array.replicate 378 none
  statics := none }

def pool11 : Array CpInfo := pool [(1, u "java/lang/Cloneable"), (0, .class_ 1), (0, u "java/lang/Object"), (0, .class_ 3)] 3

/-- java/lang/Cloneable -/
def k11 : Class := { plain "java/lang/Cloneable" (some 0) with
  accessFlags := 1537
  interfaces := #[]
  cf := some (fileOf pool11 2 #[] #[] 1537 4 #[] #[])
  fields := #[]
  methods := #[]
  instanceTypes := #[]
  staticTypes := #[]
  resolved := Array.replicate 8 none
  statics := none }

/-- the primitive byte -/
def k12 : Class := { plain "byte" none with kind := .primitive 'B', accessFlags := 0x411 }
/-- [B -/
def k13 : Class := { plain "[B" (some 0) with kind := .array 12 .byte, interfaces := #[11, 3], accessFlags := 1041 }

/-- the primitive int -/
def k14 : Class := { plain "int" none with kind := .primitive 'I', accessFlags := 0x411 }
/-- [I -/
def k15 : Class := { plain "[I" (some 0) with kind := .array 14 .int, interfaces := #[11, 3], accessFlags := 1041 }

/-- [Ljava/lang/Object; -/
def k16 : Class := { plain "[Ljava/lang/Object;" (some 0) with kind := .array 0 (.object "java/lang/Object"), interfaces := #[11, 3], accessFlags := 1041 }

/-- [Ljava/lang/String; -/
def k17 : Class := { plain "[Ljava/lang/String;" (some 0) with kind := .array 8 (.object "java/lang/String"), interfaces := #[11, 3], accessFlags := 1041 }

def heap : Heap := #[]
def classes : Array Class := #[k0, k1, k2, k3, k4, k5, k6, k7, k8, k9, k10, k11, k12, k13, k14, k15, k16, k17]
def interned : List (Array UInt16 × Addr) := []
def slotsUsed : Nat := 0
def theMethod : MethodId := ⟨1, 3⟩
def args0 : Array Value := #[.int 1, .int 2, .int 3]
def aboutOver (below : List Frame) : State where
  vm := { classes := classes, interned := interned.toArray }
  heap := heap
  slotsUsed := slotsUsed
  threads := #[{ frames := .invoking theMethod args0 :: below }]
def below0 : List Frame := [.native { method := ⟨0, 0⟩, args := #[] }]
def about1 : State := aboutOver below0
def p0 : Program := .bare "" "" ""
def e0 : Env := launch0.env 0 0 0
theorem w_frames : about1.frames = Frame.invoking theMethod args0 :: below0 := rfl
set_option maxRecDepth 65536 in
theorem w_args : argsFit about1.vm theMethod args0 = true := by decide +kernel
set_option maxRecDepth 65536 in
theorem w_heap : heapFits about1 = true := by decide +kernel
set_option maxRecDepth 65536 in
theorem w_runnable : about1.curStatus? = some .runnable := by decide +kernel
set_option maxRecDepth 65536 in
theorem w_alone : about1.alone = true := by decide +kernel
set_option maxRecDepth 65536 in
theorem w_named : about1.methodNamed? x = some theMethod := by decide +kernel
set_option maxRecDepth 65536 in
theorem w_hears : about1.hears theMethod below0 = true := by decide +kernel
set_option maxRecDepth 65536 in
theorem w_ripe : about1.ripe theMethod args0 below0 = true := by decide +kernel
theorem w_running : about1.status = .running := rfl
set_option maxRecDepth 65536 in
theorem w_room : about1.hasRoom e0.platform room_1 = true :=
  launch0.hasRoom_least _ room_1 (by decide +kernel) (by decide +kernel) (by decide +kernel) (by decide +kernel) (by decide +kernel) (by decide +kernel)
theorem allAtoms_all (ts : List Jvm.Cond) (a : Array Jvm.Value) (st : Jvm.State) : (allAtoms ts).before a st = ts.all (fun c => c.before a st) := by
  induction ts with
  | nil => rfl
  | cons c t ih =>
    show (Jvm.Cond.and c (allAtoms t)).before a st = _
    rw [Jvm.Cond.before_and, ih, List.all_cons]
def words1 : List Jvm.Cond := Jvm.Cond.code x code maxLocals ret :: tables_1
/-- a 'code' word, met by the world's own term for the bytes: nothing is compared byte by byte -/
theorem code_word {y : MethodName} {bytes : ByteArray} {mx : Nat} {rt : Option FieldType} {a : Array Value} {s : State} {m : MethodId} {meth : Method} {c : Code} (h1 : s.methodNamed? y = some m) (h2 : s.vm.method? m = some meth) (h3 : meth.code = some c) (h4 : c.code = bytes)
    (h5 : (c.maxLocals == mx && c.exceptionTable.isEmpty && decide (c.maxStack ≤ mostOperands) && decide (meth.sig.returnType = rt) && !meth.locks && decide (parseMethodDescriptor y.desc = some meth.sig)) = true) : (Jvm.Cond.code y bytes mx rt).before a s = true := by
  simp only [Bool.and_eq_true, beq_iff_eq, Bool.not_eq_true', decide_eq_true_eq] at h5
  obtain ⟨⟨⟨⟨⟨g1, g2⟩, g3⟩, g4⟩, g5⟩, g6⟩ := h5
  simp [Cond.before, Cond.holds, Cond.value, h1, h2, h3, h4, g1, g2, g3, g4, g5, g6]
def isCode : Jvm.Cond → Bool
  | .code _ _ _ _ => true
  | _ => false
theorem all_split {L : List Jvm.Cond} {P : Jvm.Cond → Bool} (h1 : L.all (fun c => isCode c || P c) = true) (h2 : ∀ c ∈ L.filter isCode, P c = true) : L.all P = true := by
  refine List.all_eq_true.mpr fun c hc => ?_
  have h := List.all_eq_true.mp h1 c hc
  rcases Bool.eq_false_or_eq_true (isCode c) with hi | hi
  · exact h2 c (List.mem_filter.mpr ⟨hc, hi⟩)
  · simpa [hi] using h
set_option maxRecDepth 65536 in
theorem w_c0 : (Jvm.Cond.code x code maxLocals ret).before args0 about1 = true := code_word (m := ⟨1, 3⟩) (meth := k1m3) (c := k1c3) (by decide +kernel) rfl rfl rfl (by decide +kernel)
set_option maxRecDepth 65536 in
theorem w_c1 : (Jvm.Cond.code ({ cls := "com/example/nodal_ledger/nodalledger/csv/DistinctFields", name := "<init>", desc := "([B)V" } : Jvm.MethodName) prog_9_method_1_code (2 : Nat) (Option.none : Option Jvm.ClassFile.FieldType)).before args0 about1 = true := code_word (m := ⟨2, 0⟩) (meth := k2m0) (c := k2c0) (by decide +kernel) rfl rfl rfl (by decide +kernel)
set_option maxRecDepth 65536 in
theorem w_c2 : (Jvm.Cond.code ({ cls := "java/lang/Object", name := "<init>", desc := "()V" } : Jvm.MethodName) object_method_1_code (1 : Nat) (Option.none : Option Jvm.ClassFile.FieldType)).before args0 about1 = true := code_word (m := ⟨0, 0⟩) (meth := k0m0) (c := k0c0) (by decide +kernel) rfl rfl rfl (by decide +kernel)
set_option maxRecDepth 65536 in
theorem w_c3 : (Jvm.Cond.code ({ cls := "com/example/nodal_ledger/nodalledger/csv/DistinctFields", name := "slot", desc := "(II)I" } : Jvm.MethodName) prog_9_method_2_code (5 : Nat) (Option.some Jvm.ClassFile.FieldType.int)).before args0 about1 = true := code_word (m := ⟨2, 1⟩) (meth := k2m1) (c := k2c1) (by decide +kernel) rfl rfl rfl (by decide +kernel)
set_option maxRecDepth 65536 in
theorem w_c4 : (Jvm.Cond.code ({ cls := "com/example/nodal_ledger/nodalledger/csv/DistinctFields", name := "slot", desc := "(III)I" } : Jvm.MethodName) prog_9_method_3_code (7 : Nat) (Option.some Jvm.ClassFile.FieldType.int)).before args0 about1 = true := code_word (m := ⟨2, 2⟩) (meth := k2m2) (c := k2c2) (by decide +kernel) rfl rfl rfl (by decide +kernel)
set_option maxRecDepth 65536 in
theorem w_c5 : (Jvm.Cond.code ({ cls := "com/example/nodal_ledger/nodalledger/csv/DistinctFields", name := "spread", desc := "(I)I" } : Jvm.MethodName) prog_9_method_10_code (1 : Nat) (Option.some Jvm.ClassFile.FieldType.int)).before args0 about1 = true := code_word (m := ⟨2, 6⟩) (meth := k2m6) (c := k2c6) (by decide +kernel) rfl rfl rfl (by decide +kernel)
set_option maxRecDepth 65536 in
theorem w_c6 : (Jvm.Cond.code ({ cls := "com/example/nodal_ledger/nodalledger/csv/DistinctFields", name := "added", desc := "(IIII)I" } : Jvm.MethodName) prog_9_method_4_code (6 : Nat) (Option.some Jvm.ClassFile.FieldType.int)).before args0 about1 = true := code_word (m := ⟨2, 3⟩) (meth := k2m3) (c := k2c3) (by decide +kernel) rfl rfl rfl (by decide +kernel)
set_option maxRecDepth 65536 in
theorem w_c7 : (Jvm.Cond.code ({ cls := "com/example/nodal_ledger/nodalledger/csv/DistinctFieldsValuePinLaw", name := "pickSlot", desc := "(III)I" } : Jvm.MethodName) method_2_code (3 : Nat) (Option.some Jvm.ClassFile.FieldType.int)).before args0 about1 = true := code_word (m := ⟨1, 1⟩) (meth := k1m1) (c := k1c1) (by decide +kernel) rfl rfl rfl (by decide +kernel)
set_option maxRecDepth 65536 in
theorem w_c8 : (Jvm.Cond.code ({ cls := "com/example/nodal_ledger/nodalledger/csv/DistinctFieldsValuePinLaw", name := "pickReading", desc := "(ILjava/lang/Object;Ljava/lang/Object;)Ljava/lang/Object;" } : Jvm.MethodName) method_3_code (3 : Nat) (Option.some (Jvm.ClassFile.FieldType.object "java/lang/Object"))).before args0 about1 = true := code_word (m := ⟨1, 2⟩) (meth := k1m2) (c := k1c2) (by decide +kernel) rfl rfl rfl (by decide +kernel)
set_option maxRecDepth 65536 in
theorem w_c9 : (Jvm.Cond.code ({ cls := "com/example/nodal_ledger/nodalledger/csv/DistinctFields", name := "value", desc := "(ILjava/lang/Object;)Ljava/lang/Object;" } : Jvm.MethodName) prog_9_method_6_code (3 : Nat) (Option.some (Jvm.ClassFile.FieldType.object "java/lang/Object"))).before args0 about1 = true := code_word (m := ⟨2, 4⟩) (meth := k2m4) (c := k2c4) (by decide +kernel) rfl rfl rfl (by decide +kernel)
set_option maxRecDepth 65536 in
theorem w_c10 : (Jvm.Cond.code ({ cls := "com/example/nodal_ledger/nodalledger/csv/DistinctFields", name := "keep", desc := "(ILjava/lang/Object;Ljava/lang/Object;)V" } : Jvm.MethodName) prog_9_method_7_code (4 : Nat) (Option.none : Option Jvm.ClassFile.FieldType)).before args0 about1 = true := code_word (m := ⟨2, 5⟩) (meth := k2m5) (c := k2c5) (by decide +kernel) rfl rfl rfl (by decide +kernel)
set_option maxRecDepth 65536 in
theorem w_c11 : (Jvm.Cond.code ({ cls := "java/util/Arrays", name := "equals", desc := "([BII[BII)Z" } : Jvm.MethodName) jdk_65_method_90_code (8 : Nat) (Option.some Jvm.ClassFile.FieldType.boolean)).before args0 about1 = true := code_word (m := ⟨9, 2⟩) (meth := k9m2) (c := k9c2) (by decide +kernel) rfl rfl rfl (by decide +kernel)
set_option maxRecDepth 65536 in
theorem w_c12 : (Jvm.Cond.code ({ cls := "java/util/Arrays", name := "rangeCheck", desc := "(III)V" } : Jvm.MethodName) jdk_65_method_30_code (3 : Nat) (Option.none : Option Jvm.ClassFile.FieldType)).before args0 about1 = true := code_word (m := ⟨9, 1⟩) (meth := k9m1) (c := k9c1) (by decide +kernel) rfl rfl rfl (by decide +kernel)
set_option maxRecDepth 65536 in
theorem w_c13 : (Jvm.Cond.code ({ cls := "jdk/internal/util/ArraysSupport", name := "mismatch", desc := "([BI[BII)I" } : Jvm.MethodName) jdk_48_method_14_code (8 : Nat) (Option.some Jvm.ClassFile.FieldType.int)).before args0 about1 = true := code_word (m := ⟨10, 1⟩) (meth := k10m1) (c := k10c1) (by decide +kernel) rfl rfl rfl (by decide +kernel)
def codes1 : List Jvm.Cond := [Jvm.Cond.code x code maxLocals ret, Jvm.Cond.code ({ cls := "com/example/nodal_ledger/nodalledger/csv/DistinctFields", name := "<init>", desc := "([B)V" } : Jvm.MethodName) prog_9_method_1_code (2 : Nat) (Option.none : Option Jvm.ClassFile.FieldType), Jvm.Cond.code ({ cls := "java/lang/Object", name := "<init>", desc := "()V" } : Jvm.MethodName) object_method_1_code (1 : Nat) (Option.none : Option Jvm.ClassFile.FieldType), Jvm.Cond.code ({ cls := "com/example/nodal_ledger/nodalledger/csv/DistinctFields", name := "slot", desc := "(II)I" } : Jvm.MethodName) prog_9_method_2_code (5 : Nat) (Option.some Jvm.ClassFile.FieldType.int), Jvm.Cond.code ({ cls := "com/example/nodal_ledger/nodalledger/csv/DistinctFields", name := "slot", desc := "(III)I" } : Jvm.MethodName) prog_9_method_3_code (7 : Nat) (Option.some Jvm.ClassFile.FieldType.int), Jvm.Cond.code ({ cls := "com/example/nodal_ledger/nodalledger/csv/DistinctFields", name := "spread", desc := "(I)I" } : Jvm.MethodName) prog_9_method_10_code (1 : Nat) (Option.some Jvm.ClassFile.FieldType.int), Jvm.Cond.code ({ cls := "com/example/nodal_ledger/nodalledger/csv/DistinctFields", name := "added", desc := "(IIII)I" } : Jvm.MethodName) prog_9_method_4_code (6 : Nat) (Option.some Jvm.ClassFile.FieldType.int), Jvm.Cond.code ({ cls := "com/example/nodal_ledger/nodalledger/csv/DistinctFieldsValuePinLaw", name := "pickSlot", desc := "(III)I" } : Jvm.MethodName) method_2_code (3 : Nat) (Option.some Jvm.ClassFile.FieldType.int), Jvm.Cond.code ({ cls := "com/example/nodal_ledger/nodalledger/csv/DistinctFieldsValuePinLaw", name := "pickReading", desc := "(ILjava/lang/Object;Ljava/lang/Object;)Ljava/lang/Object;" } : Jvm.MethodName) method_3_code (3 : Nat) (Option.some (Jvm.ClassFile.FieldType.object "java/lang/Object")), Jvm.Cond.code ({ cls := "com/example/nodal_ledger/nodalledger/csv/DistinctFields", name := "value", desc := "(ILjava/lang/Object;)Ljava/lang/Object;" } : Jvm.MethodName) prog_9_method_6_code (3 : Nat) (Option.some (Jvm.ClassFile.FieldType.object "java/lang/Object")), Jvm.Cond.code ({ cls := "com/example/nodal_ledger/nodalledger/csv/DistinctFields", name := "keep", desc := "(ILjava/lang/Object;Ljava/lang/Object;)V" } : Jvm.MethodName) prog_9_method_7_code (4 : Nat) (Option.none : Option Jvm.ClassFile.FieldType), Jvm.Cond.code ({ cls := "java/util/Arrays", name := "equals", desc := "([BII[BII)Z" } : Jvm.MethodName) jdk_65_method_90_code (8 : Nat) (Option.some Jvm.ClassFile.FieldType.boolean), Jvm.Cond.code ({ cls := "java/util/Arrays", name := "rangeCheck", desc := "(III)V" } : Jvm.MethodName) jdk_65_method_30_code (3 : Nat) (Option.none : Option Jvm.ClassFile.FieldType), Jvm.Cond.code ({ cls := "jdk/internal/util/ArraysSupport", name := "mismatch", desc := "([BI[BII)I" } : Jvm.MethodName) jdk_48_method_14_code (8 : Nat) (Option.some Jvm.ClassFile.FieldType.int)]
set_option maxRecDepth 65536 in
theorem codes_eq : words1.filter isCode = codes1 := rfl
theorem w_codes : ∀ c ∈ words1.filter isCode, c.before args0 about1 = true := by
  rw [codes_eq]
  intro c hc
  simp only [codes1, List.mem_cons, List.not_mem_nil, or_false] at hc
  rcases hc with rfl | rfl | rfl | rfl | rfl | rfl | rfl | rfl | rfl | rfl | rfl | rfl | rfl | rfl
  · exact w_c0
  · exact w_c1
  · exact w_c2
  · exact w_c3
  · exact w_c4
  · exact w_c5
  · exact w_c6
  · exact w_c7
  · exact w_c8
  · exact w_c9
  · exact w_c10
  · exact w_c11
  · exact w_c12
  · exact w_c13
set_option maxRecDepth 65536 in
theorem w_t1 : (words1.take 24).all (fun c => isCode c || c.before args0 about1) = true := by decide +kernel
set_option maxRecDepth 65536 in
theorem w_t2 : ((words1.drop 24).take 24).all (fun c => isCode c || c.before args0 about1) = true := by decide +kernel
set_option maxRecDepth 65536 in
theorem w_t3 : (((words1.drop 24).drop 24).take 24).all (fun c => isCode c || c.before args0 about1) = true := by decide +kernel
set_option maxRecDepth 65536 in
theorem w_t4 : (((words1.drop 24).drop 24).drop 24).all (fun c => isCode c || c.before args0 about1) = true := by decide +kernel
theorem w_tables : (allAtoms (Jvm.Cond.code x code maxLocals ret :: tables_1)).before args0 about1 = true := by
  rw [allAtoms_all]
  show words1.all (fun c => c.before args0 about1) = true
  refine all_split ?_ w_codes
  rw [← List.take_append_drop 24 words1, List.all_append, w_t1, ← List.take_append_drop 24 (words1.drop 24), List.all_append, w_t2, ← List.take_append_drop 24 ((words1.drop 24).drop 24), List.all_append, w_t3, w_t4]
  rfl
set_option maxRecDepth 65536 in
theorem w_case : (Jvm.Cond.and given_1 narrow_1).before args0 about1 = true := by decide +kernel
theorem w_applies : (headSpec (Jvm.Cond.code x code maxLocals ret :: tables_1) room_1).applies x e0.platform about1 = true :=
  (Spec.applies_iff w_frames).mpr ⟨w_running, w_runnable, w_alone, w_named, w_hears, w_ripe, w_room, w_tables⟩
theorem atStart : AtStart classFile x code maxLocals ret World_1 tables_1 room_1 Calls_1 rest_1 Pre_1 launch0 p0 e0 about1 theMethod args0 below0 :=
  ⟨lists_1, trivial, launch0.admits_env _ _ _, launch0.least_env, fairChoices_fair.cas, fairChoices_fair.clock, w_frames, w_args, w_heap, w_applies, trivial, trivial, w_case⟩
end start1
theorem witness_1 : WitnessClaimed_1 := ⟨start1.p0, start1.e0, start1.about1, start1.theMethod, start1.args0, start1.below0, start1.atStart⟩
end Jvm.Pilot.@@N@@
