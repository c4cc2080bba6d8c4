import JvmDerived
import JvmDerived.Pilot.@@N@@Statement
import JvmDerived.Pilot.@@N@@Code
set_option linter.unusedVariables false
set_option linter.unusedSimpArgs false
@@BLOCK:LamKit.lean.txt@@
namespace Jvm.Pilot.@@N@@
open Jvm Jvm.ClassFile Sem Op Lib Jvm.Free Jvm.Stand Jvm.LawKit Jvm.RoadKit Bundle Jvm.LamKit Jvm.Pilot.@@N@@.Jvm.D
/-! the walk goes on from A and ends as P says -/
def OGo (tb : Tables) (e : Env) (below : List Frame) (P : State → Outcome → Prop) (A : State) : Prop := ∃ U o, Steps tb e below A U ∧ U.status = .running ∧ Ended U below o ∧ P U o
def OPost (s : State) (Q : Option Value → Heap → List Loc → Prop) (k n : Nat) (U : State) (o : Outcome) : Prop := ∃ v L, o = .returned v ∧ Q v U.heap L ∧ FrameEnd s o U L k n
theorem OGo.st {tb : Tables} {e : Env} {below : List Frame} {P : State → Outcome → Prop} {A B : State} (st : ∀ t, Steps tb e below B t → Steps tb e below A t) (h : OGo tb e below P B) : OGo tb e below P A := by
  obtain ⟨U, o, h1, h2⟩ := h; exact ⟨U, o, st _ h1, h2⟩
theorem OGo.tr {tb : Tables} {e : Env} {below : List Frame} {P : State → Outcome → Prop} {A B : State} (st : Steps tb e below A B) (h : OGo tb e below P B) : OGo tb e below P A := by
  obtain ⟨U, o, h1, h2⟩ := h; exact ⟨U, o, st.trans h1, h2⟩
theorem OGo.enter {tb : Tables} {e : Env} {below : List Frame} {P : State → Outcome → Prop} {T : State} {g g' : JFrame} (q : g = g') (h : OGo tb e below P (T.setTop g')) : OGo tb e below P (T.setTop g) := q ▸ h
section Own
variable {p : Program} {l : Launch} {e : Env} {R : Room} {s : State} {m : MethodId} {args : Array Value} {below : List Frame} {meth : Method} {c : Code} {T : State} {locs : List Loc} {cells slots k n : Nat} {Q : Option Value → Heap → List Loc → Prop}
theorem OGo.fin (X : Stand p l e R s m args below meth c T locs cells slots) {v : Option Value} (hv : meth.sig.returnType = none → v = none) (hlk : meth.locks = false) {g : JFrame}
    (hst : ∀ fs, (∀ (f : JFrame) (acts : List Action), f.method = m → f.locked = none → f.entered = [] → (doReturn e (T.setTop f) acts v).1 = T.setFrames fs) → Steps p.tables e below (T.setTop g) (T.setFrames fs)) (hq : Q v T.heap locs) (hk : cells ≤ k) (hn : slots ≤ n) : OGo p.tables e below (OPost s Q k n) (T.setTop g) := by
  obtain ⟨fs, hr, hrun, hended, hW, hsame⟩ := X.leave hv hlk
  exact ⟨_, _, hst fs hr, hrun, hended, _, _, rfl, hq, ⟨_, rfl⟩, hW, hsame.mono hk hn⟩
theorem own_wide (X : Stand p l e R s m args below meth c T locs cells slots) {k n : Nat} (hk : cells ≤ k) (hn : slots ≤ n) : Stand p l e R s m args below meth c T locs k n := { X with same := X.same.mono hk hn }
end Own
abbrev OMet (l : Launch) (Z : State) (y : MethodName) (code : ByteArray) (ml : Nat) (ret : Option FieldType) (ws : List Jvm.Cond) (rm : Room) (as : Array Value) (h0 : Heap) (Q : Option Value → Heap → List Loc → Prop) : Prop :=
  MetFree l y (head1 (Jvm.Cond.code y code ml ret :: ws) rm) (fun a U => a = as ∧ Z.Warmed39 U.vm ∧ U.heap = h0) (fun _ _ _ _ _ => True) (fun _ U o U' => ∃ v L, o = .returned v ∧ Q v U'.heap L ∧ FrameEnd U o U' L rm.cells rm.slots)
def Arf (Z : State) (h : Heap) (a : Addr) (k : ClassId) (ty : FieldType) (n : Int32) (f : Nat → Value) : Prop := ∃ c : Cell, Arr Z h a c ty ∧ c.cls = k ∧ c.slots.size = n.toNatClampNeg ∧ ¬ n < 0 ∧ (∀ i, i < c.slots.size → c.slots[i]? = some (f i)) ∧ ∀ i, i < c.slots.size → fits ty (f i) = true
def own_upd (f : Nat → Value) (j : Nat) (v : Value) : Nat → Value := fun i => if i = j then v else f i
section OwnArr
variable {p : Program} {l : Launch} {e : Env} {R : Room} {s : State} {m : MethodId} {args : Array Value} {below : List Frame} {meth : Method} {c : Code} {T : State} {locs : List Loc} {cells slots : Nat} {Z : State} {h h' : Heap} {a b : Addr} {k : ClassId} {ty : FieldType} {n j : Int32} {f f' : Nat → Value} {sl : Nat} {v : Value} {ws : List Addr}
theorem Arf.lt (F : Arf Z h a k ty n f) : a < h.size := by obtain ⟨c, A, _⟩ := F; exact A.lt
theorem Arf.ext (F : Arf Z h a k ty n f) (E : Ext h h') : Arf Z h' a k ty n f := by obtain ⟨c, A, r⟩ := F; exact ⟨c, A.ext E, r⟩
theorem Arf.other (F : Arf Z h b k ty n f) (W : Wr h h' a sl v) (q : b ≠ a) : Arf Z h' b k ty n f := by obtain ⟨c, A, r⟩ := F; exact ⟨c, A.other W q, r⟩
theorem Arf.keep (F : Arf Z h a k ty n f) (K : Keep h h' ws) (q : a ∉ ws) : Arf Z h' a k ty n f := by obtain ⟨c, A, r⟩ := F; exact ⟨c, ⟨K.2.1 a c A.1 q, A.2⟩, r⟩
theorem Arf.pos (F : Arf Z h a k ty n f) : ¬ n < 0 := by obtain ⟨c, A, h1, h2, h3, -⟩ := F; exact h3
theorem Arf.congr (F : Arf Z h a k ty n f) (q : ∀ i, i < n.toNatClampNeg → f i = f' i) : Arf Z h a k ty n f' := by
  obtain ⟨c, A, h1, h2, h3, H, G⟩ := F
  exact ⟨c, A, h1, h2, h3, fun i hi => by rw [H i hi, q i (h2 ▸ hi)], fun i hi => by rw [← q i (h2 ▸ hi)]; exact G i hi⟩
theorem own_new (A : Arr Z h a (newA k ty n) ty) (q : ¬ n < 0) : Arf Z h a k ty n (fun _ => defaultValue ty) := by
  obtain ⟨c, A', h1, h2, h3, H, G⟩ := Arv.new A q
  exact ⟨c, A', h1, h2, h3, fun i hi => by have := H i hi; simpa using this, fun i hi => by have := G i hi; simpa using this⟩
theorem own_set (F : Arf Z h a k ty n f) (hv : fits ty v = true) {jj : Nat} (W : Wr h h' a jj v) : Arf Z h' a k ty n (own_upd f jj v) := by
  obtain ⟨c, A, h1, h2, h3, H, G⟩ := F
  have hj : jj < c.slots.size := by obtain ⟨c', w1, -, w3, -⟩ := W; cases w1.symm.trans A.1; exact w3
  refine ⟨c.setSlot jj v, A.same W, h1, by simpa [Cell.setSlot] using h2, h3, fun i hi => ?_, fun i hi => ?_⟩
  · have hi' : i < c.slots.size := by simpa [Cell.setSlot] using hi
    by_cases q : i = jj
    · subst q; simp [Cell.setSlot, own_upd, hi']
    · have := H i hi'; simp only [own_upd, if_neg q]; rw [← this]; exact Array.getElem?_setIfInBounds_ne (Ne.symm q)
  · have hi' : i < c.slots.size := by simpa [Cell.setSlot] using hi
    by_cases q : i = jj
    · simp only [own_upd, if_pos q]; exact hv
    · simp only [own_upd, if_neg q]; exact G i hi'
theorem own_alen (X : Stand p l e R s m args below meth c T locs cells slots) (hx : p.tables.exec = Jvm.exec) (hZ : Z.Warmed39 s.vm) (eT : T.heap = h) (F : Arf Z h a k ty n f) {g : JFrame} (hg : g.method = m) {rest : List Value} (hs : g.stack = .ref a :: rest) (hd : decode c.code g.pc = .ok (.arraylength, 1)) :
    ∀ t, Steps p.tables e below (T.setTop { g with pc := g.pc + 1, stack := .int n :: rest }) t → Steps p.tables e below (T.setTop g) t := by
  obtain ⟨cl, A, h1, S, N, H, G⟩ := F
  intro t k_
  refine X.arraylength hx (by rw [eT]; exact A.1) (State.isArrayOf_alike hZ.alike A.2.1) hg hs hd t ?_
  rw [len_of S N]; exact k_
theorem own_at (S : cells = n.toNatClampNeg) (hin : ¬ j < 0 ∧ j < n) : j.toNatClampNeg < cells := by
  have h1 := nat_of hin.1
  have h2 : ¬ n < 0 := fun q => by have := hin.1; have := hin.2; rw [Int32.lt_iff_toInt_lt] at *; omega
  have h3 := nat_of h2
  have h4 := hin.2; rw [Int32.lt_iff_toInt_lt] at h4; omega
theorem own_ldI (X : Stand p l e R s m args below meth c T locs cells slots) (hx : p.tables.exec = Jvm.exec) (hZ : Z.Warmed39 s.vm) (eT : T.heap = h) (F : Arf Z h a k .int n f) {j v : Int32} (hin : ¬ j < 0 ∧ j < n) (hv : f j.toNatClampNeg = .int v) {g : JFrame} (hg : g.method = m) {rest : List Value} (hs : g.stack = .int j :: .ref a :: rest) (hd : decode c.code g.pc = .ok (.iaload, 1)) :
    ∀ t, Steps p.tables e below (T.setTop { g with pc := g.pc + 1, stack := .int v :: rest }) t → Steps p.tables e below (T.setTop g) t := by
  obtain ⟨cl, A, h1, S, N, H, G⟩ := F
  exact X.iaload hx (by rw [eT]; exact A.1) (State.isArrayOf_alike hZ.alike A.2.1) A.2.2 (inb_of S hin) (by rw [H _ (own_at S hin), hv]) hg hs hd
theorem own_ldJ (X : Stand p l e R s m args below meth c T locs cells slots) (hx : p.tables.exec = Jvm.exec) (hZ : Z.Warmed39 s.vm) (eT : T.heap = h) (F : Arf Z h a k .long n f) {j : Int32} {v : Int64} (hin : ¬ j < 0 ∧ j < n) (hv : f j.toNatClampNeg = .long v) {g : JFrame} (hg : g.method = m) {rest : List Value} (hs : g.stack = .int j :: .ref a :: rest) (hd : decode c.code g.pc = .ok (.laload, 1)) :
    ∀ t, Steps p.tables e below (T.setTop { g with pc := g.pc + 1, stack := .long v :: rest }) t → Steps p.tables e below (T.setTop g) t := by
  obtain ⟨cl, A, h1, S, N, H, G⟩ := F
  exact X.laload hx (by rw [eT]; exact A.1) (State.isArrayOf_alike hZ.alike A.2.1) A.2.2 (inb_of S hin) (by rw [H _ (own_at S hin), hv]) hg hs hd
theorem own_ldB (X : Stand p l e R s m args below meth c T locs cells slots) (hx : p.tables.exec = Jvm.exec) (hZ : Z.Warmed39 s.vm) (eT : T.heap = h) (F : Arf Z h a k .byte n f) {j v : Int32} (hin : ¬ j < 0 ∧ j < n) (hv : f j.toNatClampNeg = .int v) {g : JFrame} (hg : g.method = m) {rest : List Value} (hs : g.stack = .int j :: .ref a :: rest) (hd : decode c.code g.pc = .ok (.baload, 1)) :
    ∀ t, Steps p.tables e below (T.setTop { g with pc := g.pc + 1, stack := .int v :: rest }) t → Steps p.tables e below (T.setTop g) t := by
  obtain ⟨cl, A, h1, S, N, H, G⟩ := F
  exact X.baloadBytes hx (by rw [eT]; exact A.1) (State.isArrayOf_alike hZ.alike A.2.1) A.2.2 (inb_of S hin) (by rw [H _ (own_at S hin), hv]) hg hs hd
theorem own_ldR (X : Stand p l e R s m args below meth c T locs cells slots) (hx : p.tables.exec = Jvm.exec) (hZ : Z.Warmed39 s.vm) (eT : T.heap = h) {C : String} (F : Arf Z h a k (.object C) n f) {j : Int32} {v : Value} (hin : ¬ j < 0 ∧ j < n) (hv : f j.toNatClampNeg = v) {g : JFrame} (hg : g.method = m) {rest : List Value} (hs : g.stack = .int j :: .ref a :: rest) (hd : decode c.code g.pc = .ok (.aaload, 1)) :
    ∀ t, Steps p.tables e below (T.setTop { g with pc := g.pc + 1, stack := v :: rest }) t → Steps p.tables e below (T.setTop g) t := by
  obtain ⟨cl, A, h1, S, N, H, G⟩ := F
  exact X.aaload hx (by rw [eT]; exact A.1) (State.isArrayOf_alike hZ.alike A.2.1) rfl A.2.2 (inb_of S hin) (by rw [H _ (own_at S hin), hv]) hg hs hd
theorem own_stI (X : Stand p l e R s m args below meth c T locs cells slots) (hx : p.tables.exec = Jvm.exec) (hZ : Z.Warmed39 s.vm) (eT : T.heap = h) (F : Arf Z h a k .int n f) {j x : Int32} (hin : ¬ j < 0 ∧ j < n) {g : JFrame} (hg : g.method = m) {rest : List Value} (hs : g.stack = .int x :: .int j :: .ref a :: rest) (hd : decode c.code g.pc = .ok (.iastore, 1)) :
    ∃ T' h', Stand p l e R s m args below meth c T' (locs ++ [⟨a, j.toNatClampNeg⟩]) cells slots ∧ T'.heap = h' ∧ Wr h h' a j.toNatClampNeg (.int x) ∧ Arf Z h' a k .int n (own_upd f j.toNatClampNeg (.int x)) ∧ ∀ target, Steps p.tables e below (T'.setTop { g with pc := g.pc + 1, stack := rest }) target → Steps p.tables e below (T.setTop g) target := by
  obtain ⟨cl, A, h1, S, N, H, G⟩ := id F
  obtain ⟨T', h', X', e', W, st⟩ := stI X hx hZ eT A (inb_of S hin) hg hs hd
  exact ⟨T', h', X', e', W, own_set F rfl W, st⟩
theorem own_stJ (X : Stand p l e R s m args below meth c T locs cells slots) (hx : p.tables.exec = Jvm.exec) (hZ : Z.Warmed39 s.vm) (eT : T.heap = h) (F : Arf Z h a k .long n f) {j : Int32} {x : Int64} (hin : ¬ j < 0 ∧ j < n) {g : JFrame} (hg : g.method = m) {rest : List Value} (hs : g.stack = .long x :: .int j :: .ref a :: rest) (hd : decode c.code g.pc = .ok (.lastore, 1)) :
    ∃ T' h', Stand p l e R s m args below meth c T' (locs ++ [⟨a, j.toNatClampNeg⟩]) cells slots ∧ T'.heap = h' ∧ Wr h h' a j.toNatClampNeg (.long x) ∧ Arf Z h' a k .long n (own_upd f j.toNatClampNeg (.long x)) ∧ ∀ target, Steps p.tables e below (T'.setTop { g with pc := g.pc + 1, stack := rest }) target → Steps p.tables e below (T.setTop g) target := by
  obtain ⟨cl, A, h1, S, N, H, G⟩ := id F
  obtain ⟨T', h', X', e', W, st⟩ := stJ X hx hZ eT A (inb_of S hin) hg hs hd
  exact ⟨T', h', X', e', W, own_set F rfl W, st⟩
theorem own_stB (X : Stand p l e R s m args below meth c T locs cells slots) (hx : p.tables.exec = Jvm.exec) (hZ : Z.Warmed39 s.vm) (eT : T.heap = h) (F : Arf Z h a k .byte n f) {j x : Int32} (hin : ¬ j < 0 ∧ j < n) {g : JFrame} (hg : g.method = m) {rest : List Value} (hs : g.stack = .int x :: .int j :: .ref a :: rest) (hd : decode c.code g.pc = .ok (.bastore, 1)) :
    ∃ T' h', Stand p l e R s m args below meth c T' (locs ++ [⟨a, j.toNatClampNeg⟩]) cells slots ∧ T'.heap = h' ∧ Wr h h' a j.toNatClampNeg (.int (nar .byte x)) ∧ Arf Z h' a k .byte n (own_upd f j.toNatClampNeg (.int (nar .byte x))) ∧ ∀ target, Steps p.tables e below (T'.setTop { g with pc := g.pc + 1, stack := rest }) target → Steps p.tables e below (T.setTop g) target := by
  obtain ⟨cl, A, h1, S, N, H, G⟩ := id F
  obtain ⟨T', h', X', e', W, st⟩ := stB X hx hZ eT A (inb_of S hin) hg hs hd
  exact ⟨T', h', X', e', W, own_set F (fits_nar_byte _) W, st⟩
theorem own_stR (X : Stand p l e R s m args below meth c T locs cells slots) (hx : p.tables.exec = Jvm.exec) (hZ : Z.Warmed39 s.vm) (eT : T.heap = h) {C : String} (F : Arf Z h a k (.object C) n f) {j : Int32} {x : Value} (hin : ¬ j < 0 ∧ j < n) (hr : x.isRef = true) (hS : Sto Z h a x) {g : JFrame} (hg : g.method = m) {rest : List Value} (hs : g.stack = x :: .int j :: .ref a :: rest) (hd : decode c.code g.pc = .ok (.aastore, 1)) :
    ∃ T' h', Stand p l e R s m args below meth c T' (locs ++ [⟨a, j.toNatClampNeg⟩]) cells slots ∧ T'.heap = h' ∧ Wr h h' a j.toNatClampNeg x ∧ Arf Z h' a k (.object C) n (own_upd f j.toNatClampNeg x) ∧ ∀ target, Steps p.tables e below (T'.setTop { g with pc := g.pc + 1, stack := rest }) target → Steps p.tables e below (T.setTop g) target := by
  obtain ⟨cl, A, h1, S, N, H, G⟩ := id F
  obtain ⟨T', h', X', e', W, st⟩ := stR X hx hZ eT A (inb_of S hin) rfl hS hg hs hd
  exact ⟨T', h', X', e', W, own_set F (by rcases ref_cases hr with rfl | ⟨y, rfl⟩ <;> rfl) W, st⟩
theorem own_getD (f : Nat → Value) (n i : Nat) (d : Value) (h : i < n) : ((List.range n).map f).getD i d = f i := by
  simp [List.getD_eq_getElem?_getD, h]
theorem Arf.arv (F : Arf Z h a k ty n f) (d : Value) : Arv Z h a k ty n ((List.range n.toNatClampNeg).map f) d := by
  obtain ⟨c, A, h1, S, N, H, G⟩ := F
  exact ⟨c, A, h1, S, N, fun i hi => by rw [own_getD f _ i d (S ▸ hi)]; exact H i hi, fun i hi => by rw [own_getD f _ i d (S ▸ hi)]; exact G i hi⟩
theorem own_ofArv {vs : List Value} {d : Value} (F : Arv Z h a k ty n vs d) : Arf Z h a k ty n (fun i => vs.getD i d) := F
/-- System.arraycopy of a part of a primitive array into another one -/
theorem own_copy (X : Stand p l e R s m args below meth c T locs cells slots) (hx : p.tables.exec = Jvm.exec) (hZ : Z.Warmed39 s.vm) {a0 : Array Value} {own : String} {index : Nat} (hown : s.vm.findClass own = some m.cls)
    (w1 : (Jvm.Cond.methodLink own index Jvm.Stand.acN).before a0 Z = true) (w2 : (Jvm.Cond.native Jvm.Stand.acN).before a0 Z = true) (w3 : (Jvm.Cond.static Jvm.Stand.acN).before a0 Z = true) (w4 : (Jvm.Cond.initialized "java/lang/System").before a0 Z = true) (eT : T.heap = h)
    {k' : ClassId} {z' sp dp nn : Int32} (A : Arf Z h a k ty n f) (B : Arf Z h b k' ty z' f') (hty : refKind ty = false)
    (h1 : ¬ sp < 0) (h2 : ¬ dp < 0) (h3 : ¬ nn < 0) (h4 : sp.toNatClampNeg + nn.toNatClampNeg ≤ n.toNatClampNeg) (h5 : dp.toNatClampNeg + nn.toNatClampNeg ≤ z'.toNatClampNeg) {n0 : Nat} (N : Fr n0 locs) (ge : n0 ≤ b)
    {g : JFrame} (hg : g.method = m) (hsize : g.locals.size = c.maxLocals) {rest : List Value} (hs : g.stack = .int nn :: .int dp :: .ref b :: .int sp :: .ref a :: rest) (hd : decode c.code g.pc = .ok (.invokestatic index, 3))
    (hf : 1 ≤ R.frames) {W : Nat} (hW : 2 * g.monitorRoom + (rest.map fun v => v.category).sum ≤ W) (hlo : W + (nativeFrameWords "java/lang/System" "arraycopy" 5 + 11) ≤ R.locals) :
    ∃ T' h' L, Stand p l e R s m args below meth c T' L cells slots ∧ T'.heap = h' ∧ Fr n0 L ∧ Keep h h' [b] ∧ Arf Z h' b k' ty z' (fun i => if dp.toNatClampNeg ≤ i ∧ i < dp.toNatClampNeg + nn.toNatClampNeg then f (sp.toNatClampNeg + (i - dp.toNatClampNeg)) else f' i) ∧
      ∀ target, Steps p.tables e below (T'.setTop { g with pc := g.pc + 3, stack := rest }) target → Steps p.tables e below (T.setTop g) target := by
  obtain ⟨T', h', L, X', e', N', K', V', st⟩ := cpA X hx hZ hown w1 w2 w3 w4 eT (A.arv .null) (B.arv .null) (Or.inl ⟨rfl, hty⟩) h1 h2 h3 h4 h5 rfl (by simpa using h5) N ge hg hsize hs hd hf hW hlo
  refine ⟨T', h', L, X', e', N', K', (own_ofArv V').congr fun i hi => ?_, st⟩
  have hb : dp.toNatClampNeg ≤ z'.toNatClampNeg := by omega
  simp only [List.getD_eq_getElem?_getD]
  by_cases q1 : i < dp.toNatClampNeg
  · rw [if_neg (by omega), List.append_assoc, List.getElem?_append_left (by simp; omega), List.getElem?_take_of_lt q1]; simp [hi]
  · by_cases q2 : i < dp.toNatClampNeg + nn.toNatClampNeg
    · rw [if_pos ⟨by omega, q2⟩, List.append_assoc, List.getElem?_append_right (by simp; omega), List.getElem?_append_left (by simp; omega)]
      have e1 : min dp.toNatClampNeg z'.toNatClampNeg = dp.toNatClampNeg := Nat.min_eq_left hb
      simp only [List.length_take, List.length_map, List.length_range, e1]
      have e2 : i - dp.toNatClampNeg < nn.toNatClampNeg := by omega
      have e3 : sp.toNatClampNeg + (i - dp.toNatClampNeg) < n.toNatClampNeg := by omega
      simp [e2, e3]
    · rw [if_neg (by omega), List.getElem?_append_right (by simp; omega)]
      have e1 : min dp.toNatClampNeg z'.toNatClampNeg = dp.toNatClampNeg := Nat.min_eq_left hb
      simp only [List.length_append, List.length_take, List.length_map, List.length_range, e1, List.getElem?_drop]
      have e2 : dp.toNatClampNeg + nn.toNatClampNeg + (i - (dp.toNatClampNeg + nn.toNatClampNeg)) = i := by omega
      rw [e2]; simp [hi]
end OwnArr
/-! the lambda's site under tables that may have interned -/
theorem own_isMade39 {s : State} {vm' : Vm} (hW : s.Warmed39 vm') {d c : ClassId} {σ : Lambda.Shape} (h : Lambda.isMade { classPath := fun _ => none } s.vm d σ c = true) : Lambda.isMade { classPath := fun _ => none } vm' d σ c = true := by
  have hA := hW.alike
  simp only [Lambda.isMade, Option.bind_eq_bind, Option.pure_def, Option.getD_eq_iff, Option.bind_eq_some_iff, Bool.false_eq_true, and_false, or_false] at h ⊢
  obtain ⟨dk, h2, k, h3, file, h4, cf, h5, object, ho, iface, hi, ok, h6, lay, h7, methods, h8, t, ht, tk, htk, h⟩ := h
  obtain ⟨dk', h2', e2⟩ := hA.2.2 _ _ h2
  obtain ⟨k', h3', e3, -, hres, -⟩ := hW.2.2.2 _ _ h3
  obtain ⟨ok', h6', e6⟩ := hA.2.2 _ _ h6
  obtain ⟨tk', htk', e7⟩ := hA.2.2 _ _ htk
  have n2 : dk'.name = dk.name := by rw [e2]
  have n6 : ok'.instanceTypes = ok.instanceTypes := by rw [e6]
  have n7 : tk'.isInterface = tk.isInterface := by rw [e7]; rfl
  refine ⟨dk', h2', k', h3', file, by rw [e3]; exact h4, cf, by rw [n2]; exact h5, object, by rw [hA.findClass]; exact ho, iface, by rw [hA.findClass]; exact hi, ok', h6', lay, by rw [n6]; exact h7, methods, h8, t, by rw [hA.findClass]; exact ht, tk', htk', ?_⟩
  rw [n7, Lambda.methodIn_ask_alike hA, Lambda.methodIn_ask_alike hA]
  cases hg : ((methodIn t σ.implName σ.implDesc.toString tk.isInterface none).ask { classPath := fun _ => none } s.vm).1 with
  | error x => simp [hg] at h
  | ok target =>
    cases hf : ((methodIn iface σ.name σ.sam.toString true none).ask { classPath := fun _ => none } s.vm).1 with
    | error x => simp [hg, hf] at h
    | ok found =>
      simp only [hg, hf, Option.some.injEq, Bool.and_eq_true] at h ⊢
      have q1 : k'.name = k.name := by rw [e3]
      have q2 : k'.kind = k.kind := by rw [e3]
      have q3 : k'.accessFlags = k.accessFlags := by rw [e3]
      have q4 : k'.super = k.super := by rw [e3]
      have q5 : k'.interfaces = k.interfaces := by rw [e3]
      have q6 : k'.init = k.init := by rw [e3]
      have q7 : k'.loader = k.loader := by rw [e3]
      have q8 : k'.hidden = k.hidden := by rw [e3]
      have q9 : k'.linked = k.linked := by rw [e3]
      have q10 : k'.callSites = k.callSites := by rw [e3]
      have q11 : k'.invokers = k.invokers := by rw [e3]
      have q12 : k'.methods = k.methods := by rw [e3]
      have q13 : k'.fields = k.fields := by rw [e3]
      have q14 : k'.instanceTypes = k.instanceTypes := by rw [e3]
      have q15 : k'.staticTypes = k.staticTypes := by rw [e3]
      rw [q1, q2, q3, q4, q5, q6, q7, q8, q9, q10, q11, q12, q13, q14, q15, n2, n6, Lambda.resolvedOf_alike hA, hA.selectMethod]
      refine ⟨⟨h.1.1, ?_⟩, h.2⟩
      have b13 := h.1.2
      rw [List.all_eq_true] at b13 ⊢
      intro y hy
      have := b13 y hy
      obtain ⟨x, i⟩ := y
      cases x with
      | none => rfl
      | some r =>
        simp only [Option.isNone_some, Bool.false_or, decide_eq_true_eq] at this ⊢
        rcases hres i with h1 | ⟨h1, -⟩
        · rw [h1]; exact this
        · rw [this] at h1; cases h1
theorem own_made39 {Z s : State} {host : String} {σ : Lambda.Shape} {cK : ClassId} (hZ : Z.Warmed39 s.vm) (h : LamKit.Made Z host σ cK) : LamKit.Made s host σ cK := by
  obtain ⟨d, dk, hd, hn, hm, hc⟩ := h
  obtain ⟨dk', hd', e⟩ := hZ.alike.2.2 _ _ hd
  refine ⟨d, dk', hd', by rw [e]; exact hn, own_isMade39 hZ hm, ?_⟩
  have hA := hZ.alike
  simp only [State.lambdaCallable, hA.findClass, hA.assignable, hA.superclasses, hA.declaredIn] at hc ⊢
  exact hc
/-- the cell of a function object that holds a long -/
def own_Fn (h : Heap) (a : Addr) (cK : ClassId) (v : Int64) : Prop := h[a]? = some { cls := cK, slots := #[.long v], vm := .none }
section OwnLam
variable {p : Program} {l : Launch} {e : Env} {R : Room} {s : State} {m : MethodId} {args : Array Value} {below : List Frame} {meth : Method} {c : Code} {T : State} {locs : List Loc} {cells slots : Nat} {Z : State} {a0 : Array Value} {h : Heap}
/-- 'invokedynamic' at the site: a new object that holds the long -/
theorem own_site (X : Stand p l e R s m args below meth c T locs cells slots) (hx : p.tables.exec = Jvm.exec) (hZ : Z.Warmed39 s.vm) {x : MethodName} {pc index fi : Nat} {σ : Lambda.Shape} (hnamed : s.methodNamed? x = some m)
    (w : (Jvm.Cond.lambdaSite x pc index σ).before a0 Z = true) (hcap : σ.captured = [.long]) (hok : capOK σ x.cls fi 0 = true) (wO : (Jvm.Cond.instantiable "java/lang/Object" 0).before a0 Z = true) (eT : T.heap = h)
    {g : JFrame} (hg : g.method = m) (hpc : g.pc = pc) (hsize : g.locals.size = c.maxLocals) (hdg : decode c.code g.pc = .ok (.invokedynamic index, 5)) {v : Int64} {rest : List Value} (hstack : g.stack = .long v :: rest)
    (hwords : 2 * g.monitorRoom + (g.stack.map fun v => v.category).sum + 3072 ≤ R.locals) (hcells : cells + 1 ≤ R.cells) (hslots : slots + 1 ≤ R.slots) :
    ∃ T' h' cK, LamKit.Made Z x.cls σ cK ∧ Stand p l e R s m args below meth c T' locs (cells + 1) (slots + 1) ∧ T'.heap = h' ∧ Ext h h' ∧ own_Fn h' h.size cK v ∧
      ∀ target, Steps p.tables e below (T'.setTop { g with pc := g.pc + 5, stack := .ref h.size :: rest }) target → Steps p.tables e below (T.setTop g) target := by
  obtain ⟨cK, one, hat⟩ := Cond.lambdaSite_spec w
  obtain ⟨mD, kD, cfD, i0, p0, lk, hmD, hkD, hcfD, hsh, -, hfind, hmade, hcan, hl⟩ := State.lambdaAt?_spec hat
  have hA := hZ.alike
  have hmD' : s.methodNamed? x = some mD := by
    have q := State.methodNamed?_setVm (s := Z) hA x
    rw [hmD] at q; exact q
  cases hnamed.symm.trans hmD'
  obtain ⟨kD1, hkD1, hnameD⟩ := className_of_methodNamed hmD
  cases hkD.symm.trans hkD1
  have hMd : LamKit.Made Z x.cls σ cK := ⟨_, kD, hkD, hnameD, hmade, hcan⟩
  obtain ⟨kD', hkD', eD⟩ := hA.2.2 _ _ hkD
  rcases hl with ⟨a, cell, -, -, hc0, -⟩ | ⟨rfl, -, -⟩
  · rw [hcap] at hc0; cases hc0
  · obtain ⟨b, nt, desc, site, h1, h2, h3, h4⟩ := Lambda.shapeOf?_site hsh
    have wO' : (Jvm.Cond.instantiable "java/lang/Object" 0).before args s = true := mv hZ wO
    obtain ⟨kc, f, hkc, hkind, hty, -⟩ := made_cap hok hkD' (by rw [eD]; exact hnameD) (own_isMade39 hZ hmade) (noFields wO' (State.WarmedH.refl s))
    have hz : ((kc.instanceTypes.toList.zip [Value.long v]).map fun (t, v) => narrow t v) = [Value.long v] := by rw [hty, hcap]; rfl
    have hw : e.platform.lambdaLinkWords = 3072 := by rw [X.admits.platform]
    have q := X.lambdaMakes hx hg hsize hdg (vals := [.long v]) (rest := rest) hkD' (by rw [hpc, eD]; exact hfind) (by rw [eD]; exact hcfD) h1 h2 (parseLong_of_parse h3) (by rw [h4, hcap]; rfl) (by rw [hstack]; rfl) hkc (by rw [hw]; exact hwords) hcells (by rw [hz]; exact hslots)
      (fun i y hy => by
        rw [hz] at hy
        cases i with
        | zero => cases hy; simp [State.fitsSlot, State.slotType?, hkc, hkind, hty, hcap, fits]
        | succ i => simp at hy)
    rw [hz] at q
    subst eT
    refine ⟨_, _, cK, hMd, q.1, rfl, ⟨by simp [State.pushCell], fun a cl hcl => ?_⟩, by simp [own_Fn, State.pushCell], q.2⟩
    show (T.heap.push _)[a]? = _
    rw [Array.getElem?_push, if_neg (Nat.ne_of_lt (Array.getElem?_eq_some_iff.mp hcl).1)]; exact hcl
end OwnLam

abbrev own_sg : Lambda.Shape := Jvm.Lambda.Shape.mk "java/util/function/Predicate" "test" (Jvm.ClassFile.MethodDescriptor.mk ([(Jvm.ClassFile.FieldType.object "java/lang/Object")] : List Jvm.ClassFile.FieldType) (Option.some Jvm.ClassFile.FieldType.boolean)) ([Jvm.ClassFile.FieldType.long] : List Jvm.ClassFile.FieldType) (6 : Nat) "com/example/crivo/crivo/UpdateRule" "lambda$withCode$1" (Jvm.ClassFile.MethodDescriptor.mk ([Jvm.ClassFile.FieldType.long, (Jvm.ClassFile.FieldType.object "com/example/crivo/crivo/UpdateRule")] : List Jvm.ClassFile.FieldType) (Option.some Jvm.ClassFile.FieldType.boolean)) false (Jvm.ClassFile.MethodDescriptor.mk ([(Jvm.ClassFile.FieldType.object "com/example/crivo/crivo/UpdateRule")] : List Jvm.ClassFile.FieldType) (Option.some Jvm.ClassFile.FieldType.boolean))
def own_fcode : ByteArray := ⟨#[0x2a, 0xb4, 0x00, 0x0f, 0x2b, 0xc0, 0x00, 0x13, 0xb8, 0x00, 0x17, 0xac]⟩
theorem own_fwd : fwdOK own_sg "com/example/crivo/crivo/UpdateRule" own_fcode 2 (some .boolean) 23 19 = true := by decide +kernel
theorem own_cap : capOK own_sg "com/example/crivo/crivo/UpdateRule" 15 0 = true := by decide +kernel
theorem own_f0 : decode own_fcode 0 = .ok (.aload_n 0, 1) := by decide +kernel
theorem own_f1 : decode own_fcode 1 = .ok (.getfield 15, 3) := by decide +kernel
theorem own_f4 : decode own_fcode 4 = .ok (.aload_n 1, 1) := by decide +kernel
theorem own_f5 : decode own_fcode 5 = .ok (.checkcast 19, 3) := by decide +kernel
theorem own_f8 : decode own_fcode 8 = .ok (.invokestatic 23, 3) := by decide +kernel
theorem own_f11 : decode own_fcode 11 = .ok (.ireturn, 1) := by decide +kernel
def own_t (cd : Int32) (v : Int64) : Int32 := if cd.toInt64 = v then 1 else 0
theorem own_t_nar (cd : Int32) (v : Int64) : narrow .boolean (.int (own_t cd v)) = .int (own_t cd v) := by unfold own_t; split <;> rfl
theorem own_Fn.lt {h : Heap} {a : Addr} {cK : ClassId} {v : Int64} (F : own_Fn h a cK v) : a < h.size := (Array.getElem?_eq_some_iff.mp F).1
theorem own_Fn.ext {h h' : Heap} {a : Addr} {cK : ClassId} {v : Int64} (F : own_Fn h a cK v) (E : Ext h h') : own_Fn h' a cK v := E.2 _ _ F
theorem own_Fn.keep {h h' : Heap} {a : Addr} {cK : ClassId} {v : Int64} {ws : List Addr} (F : own_Fn h a cK v) (K : Keep h h' ws) (q : a ∉ ws) : own_Fn h' a cK v := K.2.1 _ _ F q
section OwnLam2
variable {p : Program} {l : Launch} {e : Env} {R : Room} {s : State} {m : MethodId} {args : Array Value} {below : List Frame} {meth : Method} {c : Code} {T : State} {locs : List Loc} {cells slots : Nat} {Z : State} {a0 : Array Value} {h : Heap}
theorem own_clone (X : Stand p l e R s m args below meth c T locs cells slots) (hx : p.tables.exec = Jvm.exec) (hZ : Z.Warmed39 s.vm) {own ad : String} {index : Nat} (hown : s.vm.findClass own = some m.cls)
    (w1 : (Jvm.Cond.methodLink own index ⟨ad, "clone", "()Ljava/lang/Object;"⟩).before a0 Z = true) (w2 : (Jvm.Cond.sameMethod ad "java/lang/Object" "clone" "()Ljava/lang/Object;").before a0 Z = true) (w3 : (Jvm.Cond.native ⟨"java/lang/Object", "clone", "()Ljava/lang/Object;"⟩).before a0 Z = true)
    (w4 : (Jvm.Cond.instanceMethod ⟨"java/lang/Object", "clone", "()Ljava/lang/Object;"⟩).before a0 Z = true) (w5 : (Jvm.Cond.selects ad ⟨ad, "clone", "()Ljava/lang/Object;"⟩ ⟨"java/lang/Object", "clone", "()Ljava/lang/Object;"⟩).before a0 Z = true) (w6 : (Jvm.Cond.castable ad "java/lang/Cloneable").before a0 Z = true)
    (eT : T.heap = h) {a : Addr} {k : ClassId} {ty : FieldType} {z : Int32} {f : Nat → Value} (F : Arf Z h a k ty z f) (E : Exa Z h a ad) {g : JFrame} (hg : g.method = m) (hsize : g.locals.size = c.maxLocals) {rest : List Value} (hst : g.stack = .ref a :: rest) (hd : decode c.code g.pc = .ok (.invokevirtual index, 3))
    (hf : 1 ≤ R.frames) {W cap : Nat} (hW : 2 * g.monitorRoom + (rest.map fun v => v.category).sum ≤ W) (hl : W + 14 ≤ R.locals) (hcap : z.toNatClampNeg ≤ cap) (hc : cells + 1 ≤ R.cells) (hsl : slots + cap ≤ R.slots) :
    ∃ T' h', Stand p l e R s m args below meth c T' locs (cells + 1) (slots + cap) ∧ T'.heap = h' ∧ Ext h h' ∧ Arf Z h' h.size k ty z f ∧ Exa Z h' h.size ad ∧
      ∀ target, Steps p.tables e below (T'.setTop { g with pc := g.pc + 3, stack := .ref h.size :: rest }) target → Steps p.tables e below (T.setTop g) target := by
  obtain ⟨cl, A, q1, S, q3, H, G⟩ := F
  have FC : FitC Z cl := fitC_of A fun i hi v hv => by rw [H i hi] at hv; cases hv; exact G i hi
  obtain ⟨T', h', X', e', ex, A', E', st⟩ := cloneA X hx hZ hown w1 w2 w3 w4 w5 w6 eT A E FC hg hsize hst hd hf hW hl (by rw [S]; exact hcap) hc hsl
  exact ⟨T', h', X', e', ex, ⟨cloneOf cl, A', q1, S, q3, H, G⟩, E', st⟩
/-- the forwarder's cast -/
theorem own_cast {U target : State} {host : String} {σ : Lambda.Shape} {cK : ClassId} {ck : Code} {bl : List Frame} {fcode : ByteArray} {fml idx ci : Nat} {fret : Option FieldType} (hx : p.tables.exec = Jvm.exec) (hU : At U ⟨cK, 1⟩ ck bl) (hW : s.WarmedH U.vm)
    (hmd : LamKit.Made s host σ cK) (hok : fwdOK σ host fcode fml fret idx ci = true) {a : Addr} {cell : Cell} (hcell : U.heap[a]? = some cell) (hvm : ∀ k, cell.vm ≠ .statics k) (hcls : s.vm.findClass σ.implClass = some cell.cls)
    {g : JFrame} (hg : g.method = ⟨cK, 1⟩) {rest : List Value} (hstack : g.stack = .ref a :: rest) (hdg : decode ck.code g.pc = .ok (.checkcast ci, 3)) (k : Steps p.tables e bl (U.setTop { g with pc := g.pc + 3 }) target) : Steps p.tables e bl (U.setTop g) target := by
  obtain ⟨d, dk, hd, hdn, hmade, -⟩ := hmd
  obtain ⟨dk', hd', he⟩ := hW.alike.2.2 _ _ hd
  obtain ⟨k1, tk, file, methk, ck', toy, t, nt, h1, -, -, -, -, -, -, -, -, -, -, -, htoy, htk, -, -, hcr⟩ := made_static hok hd' (by rw [he]; exact hdn) (Lambda.isMade_warmer hW hmade)
  rw [hW.alike.findClass, hcls] at htoy
  cases htoy
  have hU' : At U g.method ck bl := by rw [hg]; exact hU
  jvm_step hU' [hx, hdg, checkcast.wp_ready (e := e) (s := U) (f := g) (c := cell.cls) (x := .ref a) (rest := rest) hU.top (by rw [hg]; exact hcr) hstack]
  exact ⟨cell, hcell, hvm, tk, htk, tk, htk, by rw [if_pos (Vm.assignable_self _ _)]; exact k⟩
end OwnLam2

abbrev own_y : MethodName := ⟨"com/example/crivo/crivo/UpdateRule", "lambda$withCode$1", "(JLcom/example/crivo/crivo/UpdateRule;)Z"⟩
abbrev own_xi : MethodName := ⟨"java/util/function/Predicate", "test", "(Ljava/lang/Object;)Z"⟩
theorem own_dx : parseMethodDescriptor own_xi.desc = some ⟨[.object "java/lang/Object"], some .boolean⟩ := by decide +kernel
theorem own_dy : parseMethodDescriptor own_y.desc = some ⟨[.long, .object "com/example/crivo/crivo/UpdateRule"], some .boolean⟩ := by decide +kernel
section OwnLam3
variable {p : Program} {l : Launch} {e : Env} {R : Room} {s : State} {m : MethodId} {args : Array Value} {below : List Frame} {meth : Method} {c : Code} {T : State} {locs : List Loc} {cells slots : Nat} {Z : State} {a0 : Array Value} {h : Heap}
theorem own_test (X : Stand p l e R s m args below meth c T locs cells slots) (hx : p.tables.exec = Jvm.exec) (hZ : Z.Warmed39 s.vm) {own : String} {index : Nat} (hown : s.vm.findClass own = some m.cls)
    (w1 : (Jvm.Cond.methodLink own index own_xi).before a0 Z = true) (w2 : (Jvm.Cond.declares own_xi).before a0 Z = true) (w3 : (Jvm.Cond.interfaceMethod own_xi.cls own_xi.cls own_xi.name own_xi.desc).before a0 Z = true)
    {bytes : ByteArray} (w4 : (Jvm.Cond.code own_y bytes 3 (some .boolean)).before a0 Z = true) (w5 : (Jvm.Cond.static own_y).before a0 Z = true) (w6 : (Jvm.Cond.initialized own_y.cls).before a0 Z = true) (w7 : (Jvm.Cond.instantiable "java/lang/Object" 0).before a0 Z = true)
    (eT : T.heap = h) {n0 : Nat} {vv : Int64} {r fn : Addr} {cd : Int32} {cK : ClassId}
    (hM : MetFree l own_y (head1 [Jvm.Cond.code own_y bytes 3 (some .boolean)] ({ frames := 0, cells := 0, slots := 0, locals := 0 } : Room)) (fun a U => a = #[.long vv, .ref r] ∧ Z.Warmed39 U.vm ∧ U.heap = h) (fun _ _ _ _ _ => True) (fun _ U o U' => ∃ v L, o = .returned v ∧ (v = some (.int (own_t cd vv)) ∧ Fr n0 L ∧ U'.heap = h) ∧ FrameEnd U o U' L 0 0))
    (md : LamKit.Made Z "com/example/crivo/crivo/UpdateRule" own_sg cK) (F : own_Fn h fn cK vv) (E : Exa Z h r "com/example/crivo/crivo/UpdateRule")
    {g : JFrame} (hg : g.method = m) (hsize : g.locals.size = c.maxLocals) {rest : List Value} (hstack : g.stack = .ref r :: .ref fn :: rest) (hdg : decode c.code g.pc = .ok (.invokeinterface index 2, 5))
    (hf : 2 ≤ R.frames) {W : Nat} (hW : 2 * g.monitorRoom + (rest.map fun v => v.category).sum ≤ W) (hl : W + 27 ≤ R.locals) (hcl : cells ≤ R.cells) (hsl : slots ≤ R.slots) :
    ∃ T' L, Stand p l e R s m args below meth c T' (locs ++ L) cells slots ∧ T'.heap = h ∧ Fr n0 L ∧
      ∀ target, Steps p.tables e below (T'.setTop { g with pc := g.pc + 5, stack := .int (own_t cd vv) :: rest }) target → Steps p.tables e below (T.setTop g) target := by
  have hM' : Met l own_y [Jvm.Cond.code own_y bytes 3 (some .boolean)] ({ frames := 0, cells := 0, slots := 0, locals := 0 } : Room) (fun a U => a = #[.long vv, .ref r] ∧ Z.Warmed39 U.vm ∧ U.heap = h) (fun _ _ o t => o = .returned (some (.int (own_t cd vv))) ∧ t.heap = h) 0 0 (fun a => n0 ≤ a) := by
    intro p e ha hc hk s m args below hf happ hP hK
    obtain ⟨n, o, h1, h2, h3, v, L, rfl, ⟨rfl, N, e1⟩, fe⟩ := hM p e ha hc hk s m args below hf happ hP hK
    exact ⟨n, _, h1, h2, h3, ⟨rfl, e1⟩, L, fe, N⟩
  have wc : (Jvm.Cond.code own_y bytes 3 (some .boolean)).before args s = true := mv hZ w4
  have hmd := own_made39 hZ md
  obtain ⟨cell, k, hcell, hcls, hk, hst, -⟩ := E
  obtain ⟨v, st, t, T', L, X', hL, e1, e3, ⟨hq1, hq2⟩, st9⟩ := callLamS X hx (own := own) (host := "com/example/crivo/crivo/UpdateRule") (index := index) (count := 2) (xi := own_xi) (y := own_y) (σ := own_sg) hM' (fun _ _ _ _ h => h) rfl rfl
    (fun w hw' a' U hU => by rw [List.mem_singleton.mp hw']; exact word_at hU (Or.inl (by first | rfl | simp [Cond.onTables, Cond.keeps, Cond.steady])) wc) (List.mem_singleton.mpr rfl)
    hown (mv hZ w1) (mv hZ w2) (mv hZ w3) wc (mv hZ w5) (mv hZ w6) (by decide +kernel) (by decide +kernel) (by decide) hmd ⟨_, by rw [eT]; exact F, rfl, rfl⟩ own_fwd own_f8 own_f11
    (g := g) hg hsize (argsL := [.ref r]) (argsT := [.long vv, .ref r]) (rest := rest) (L0 := #[.val (.ref fn), .val (.ref r)])
    (fun sig h => by cases own_dx.symm.trans h; rfl) (fun sig h => by cases own_dy.symm.trans h; rfl) (by rw [hstack]; rfl) hdg (fun _ => rfl) rfl
    (fun U ck bl target hU hck hh hWU k => XS.aloadN hU hx rfl (hb hck own_f0) rfl rfl (getCap hx hU hWU hmd own_cap (mv (args := args) hZ w7) (by rw [hh, eT]; exact F) rfl (v := .long vv) rfl rfl rfl (hb hck own_f1)
      (XS.aloadN hU hx rfl (hb hck own_f4) rfl rfl (own_cast hx hU hWU hmd own_fwd (by rw [hh, eT]; exact hcell) (fun q z => by rw [z] at hst; cases hst) (by rw [hZ.alike.findClass]; exact hcls) rfl rfl (hb hck own_f5) k))))
    (fun st w t h => by obtain ⟨h, -⟩ := h; cases h; exact Or.inl ⟨.boolean, _, rfl, Or.inr (Or.inl rfl), own_t_nar _ _, rfl, rfl⟩) hf (by show 2 * g.monitorRoom + _ + (2 + 11) + (3 + 11 + 0) ≤ _; omega) hcl hsl (fun U hWU hUh => ⟨rfl, wtrans hZ hWU, hUh.trans eT⟩)
  cases hq1
  exact ⟨T', L, X', e1.trans hq2, hL, st9⟩
end OwnLam3

theorem own_sta_keep {Z : State} {h h' : Heap} {C n d : String} {v : Value} (F : Sta Z h C n d v) (K : Keep h h' []) : Sta Z h' C n d v := by
  obtain ⟨cf, i, k, f, st, cell, h1, h2, h3, h4, h5, r⟩ := F; exact ⟨cf, i, k, f, st, cell, h1, h2, h3, h4, K.2.1 _ _ h5 (fun q => nomatch q), r⟩
def OPostS (Z : State) (EL : List (String × Nat)) (s : State) (Q : Option Value → Heap → List Loc → Prop) (k n : Nat) (U : State) (o : Outcome) : Prop := ∃ v L, o = .returned v ∧ Q v U.heap L ∧ CHr Z EL s.vm s.heap U.vm U.heap ∧ ReturnedEndW s o U L k n
abbrev OSt (Z : State) (EL : List (String × Nat)) (s : State) (m : MethodId) (own : String) (vm : Vm) (h0 h : Heap) : Prop :=
  Z.Warmed39 (s.setVm vm).vm ∧ (s.setVm vm).vm.findClass own = some m.cls ∧ (∃ k, s.Since vm k ∧ k ≤ h.size) ∧ CHr Z EL s.vm h0 vm h
abbrev OMetS (l : Launch) (Z : State) (EL : List (String × Nat)) (fs : List Addr) (y : MethodName) (code : ByteArray) (ml : Nat) (ret : Option FieldType) (ws : List Jvm.Cond) (rm : Room) (as : Array Value) (h0 : Heap) (Q : Option Value → Heap → List Loc → Prop) : Prop :=
  MetFree l y (head1 (Jvm.Cond.code y code ml ret :: ws) rm) (fun a U => a = as ∧ Z.Warmed39 U.vm ∧ U.heap = h0 ∧ CHv Z EL U.vm h0 ∧ ∀ x ∈ fs, Safe Z EL U.vm h0 x) (fun _ _ _ _ _ => True) (fun _ U o U' => ∃ v L, o = .returned v ∧ Q v U'.heap L ∧ CHr Z EL U.vm U.heap U'.vm U'.heap ∧ ReturnedEndW U o U' L rm.cells rm.slots)
section OwnS
variable {p : Program} {l : Launch} {e : Env} {R : Room} {s : State} {m : MethodId} {args : Array Value} {below : List Frame} {meth : Method} {c : Code} {T : State} {locs : List Loc} {cells slots k n : Nat} {Q : Option Value → Heap → List Loc → Prop} {Z : State} {a0 : Array Value} {EL : List (String × Nat)} {h0 h h' : Heap} {vm vm' : Vm} {own : String} {ws : List Addr}
theorem OSt.z (O : OSt Z EL s m own vm h0 h) : Z.Warmed39 (s.setVm vm).vm := O.1
theorem OSt.o (O : OSt Z EL s m own vm h0 h) : (s.setVm vm).vm.findClass own = some m.cls := O.2.1
theorem OSt.q (O : OSt Z EL s m own vm h0 h) : ∃ k, s.Since vm k ∧ k ≤ h.size := O.2.2.1
theorem OSt.r (O : OSt Z EL s m own vm h0 h) : CHr Z EL s.vm h0 vm h := O.2.2.2
theorem OSt.ext (O : OSt Z EL s m own vm h0 h) (E : Ext h h') : OSt Z EL s m own vm h0 h' := ⟨O.z, O.o, by obtain ⟨k, a, b⟩ := O.q; exact ⟨k, a, Nat.le_trans b E.1⟩, O.r.trans (CHr.ext E O.r.1)⟩
theorem OSt.wr (O : OSt Z EL s m own vm h0 h) {a : Addr} {sl : Nat} {v : Value} (W : Wr h h' a sl v) (S : Safe Z EL vm h a) : OSt Z EL s m own vm h0 h' := ⟨O.z, O.o, by obtain ⟨k, a, b⟩ := O.q; exact ⟨k, a, Nat.le_trans b (CHr.wr W S O.r.1).2.1⟩, O.r.trans (CHr.wr W S O.r.1)⟩
theorem OSt.keep (O : OSt Z EL s m own vm h0 h) (K : Keep h h' ws) (hs : ∀ x ∈ ws, Safe Z EL vm h x) : OSt Z EL s m own vm h0 h' := ⟨O.z, O.o, by obtain ⟨k, a, b⟩ := O.q; exact ⟨k, a, Nat.le_trans b K.1⟩, O.r.trans (CHr.keep K hs O.r.1)⟩
theorem OSt.call (O : OSt Z EL s m own vm h0 h) {U : State} (S : (s.setVm vm).Since U.vm U.heap.size) (eT : T.heap = h) (g : T.heap.size ≤ U.heap.size) (C : CHr Z EL vm h U.vm U.heap) : OSt Z EL s m own U.vm h0 U.heap := by
  obtain ⟨k, a, b⟩ := O.q
  subst eT
  exact ⟨State.Warmed39.trans O.z S.1, (S.1.alike.findClass _ _).trans O.o, ⟨_, a.trans S (Nat.le_trans b g), Nat.le_refl _⟩, O.r.trans C⟩
theorem own_ldcS (X : Stand p l e R (s.setVm vm) m args below meth c T locs cells slots) (hx : p.tables.exec = Jvm.exec) (O : OSt Z EL s m own vm h0 h) {text : String} {index : Nat} (w : (Jvm.Cond.stringLink own index text).before a0 Z = true) (wS : ∀ a ∈ Bundle.stringAtoms, a.before a0 Z = true) (eT : T.heap = h) (hEL : EW Z a0 EL) (hmem : (own, index) ∈ EL)
    {vs : List Value} {z : Int32} (ht : (∀ c ∈ text.toList, c.toNat < 256) ∧ text.toList.map (fun c => Value.int (Jvm.Lit.byteI c.toNat.toUInt16)) = vs) (hz : ¬ z < 0) (hl : z.toNatClampNeg = vs.length)
    {g : JFrame} (hg : g.method = m) (hd : decode c.code g.pc = .ok (.ldc index, 2)) {n : Nat} (hn : 4 * text.toList.length ≤ n) (hbig : n ≤ 536870912) (hc : cells + 2 ≤ R.cells) (hl' : slots + (n + 4) ≤ R.slots) :
    ∃ (a : Addr) (T' : State) (h' : Heap) (b : Addr) (k : ClassId), Stand p l e R (s.setVm T'.vm) m args below meth c T' locs (cells + 2) (slots + (n + 4)) ∧ T'.heap = h' ∧ Ext h h' ∧ OSt Z EL s m own T'.vm h0 h' ∧ (∀ x, x < h.size → Safe Z EL vm h x → Safe Z EL T'.vm h' x) ∧
      Exa Z h' a "java/lang/String" ∧ Fld Z h' a "java/lang/String" "coder" "B" (.int 0) ∧ Fld Z h' a "java/lang/String" "value" "[B" (.ref b) ∧ Arv Z h' b k .byte z vs (.int 0) ∧ (∀ x, Safe Z EL T'.vm h' x → x ≠ a ∧ x ≠ b) ∧
      ∀ target, Steps p.tables e below (T'.setTop { g with pc := g.pc + 2, stack := .ref a :: g.stack }) target → Steps p.tables e below (T.setTop g) target := by
  obtain ⟨k0, hS, hk⟩ := O.q
  obtain ⟨a, T', h', k1, b, k, X', e', E, hS', hk', hZ', ho', F1, F2, F3, F4, -, -, hC, -, hne, st⟩ := ldcCH X hx O.z O.o w wS eT hS hk hEL hmem O.r.1 ht hz hl hg hd hn hbig hc hl'
  exact ⟨a, T', h', b, k, X', e', E, ⟨hZ', ho', ⟨k1, hS', hk'⟩, O.r.trans hC⟩, fun x hxl S => hC.safe hxl S, F1, F2, F3, F4, hne, st⟩
theorem own_ldcO (X : Stand p l e R (s.setVm vm) m args below meth c T locs cells slots) (hx : p.tables.exec = Jvm.exec) (O : OSt Z EL s m own vm h0 h) {text : String} {index : Nat} (w : (Jvm.Cond.stringLink own index text).before a0 Z = true) (wS : ∀ a ∈ Bundle.stringAtoms, a.before a0 Z = true) (eT : T.heap = h) (hEL : EW Z a0 EL)
    {g : JFrame} (hg : g.method = m) (hd : decode c.code g.pc = .ok (.ldc index, 2)) {n : Nat} (hn : 4 * text.toList.length ≤ n) (hbig : n ≤ 536870912) (hc : cells + 2 ≤ R.cells) (hl' : slots + (n + 4) ≤ R.slots) :
    ∃ (a : Addr) (T' : State) (h' : Heap), Stand p l e R (s.setVm T'.vm) m args below meth c T' locs (cells + 2) (slots + (n + 4)) ∧ T'.heap = h' ∧ Ext h h' ∧ OSt Z EL s m own T'.vm h0 h' ∧ (∀ x, x < h.size → Safe Z EL vm h x → Safe Z EL T'.vm h' x) ∧
      ∀ target, Steps p.tables e below (T'.setTop { g with pc := g.pc + 2, stack := .ref a :: g.stack }) target → Steps p.tables e below (T.setTop g) target := by
  obtain ⟨k0, hS, hk⟩ := O.q
  obtain ⟨a, T', h', k1, X', e', E, hS', hk', hZ', ho', hC, -, st⟩ := ldcOH X hx O.z O.o w wS eT hS hk hEL O.r.1 hg hd hn hbig hc hl'
  exact ⟨a, T', h', X', e', E, ⟨hZ', ho', ⟨k1, hS', hk'⟩, O.r.trans hC⟩, fun x hxl S => hC.safe hxl S, st⟩
theorem OGo.finS (X : Stand p l e R (s.setVm vm) m args below meth c T locs cells slots) (eT : T.heap = h) (O : OSt Z EL s m own vm h0 h) (hEL : EW Z a0 EL) (hs0 : s.heap = h0) {v : Option Value} (hv : meth.sig.returnType = none → v = none) (hlk : meth.locks = false) {g : JFrame}
    (hst : ∀ fs, (∀ (f : JFrame) (acts : List Action), f.method = m → f.locked = none → f.entered = [] → (doReturn e (T.setTop f) acts v).1 = T.setFrames fs) → Steps p.tables e below (T.setTop g) (T.setFrames fs)) (hq : Q v T.heap locs) (hk : cells ≤ k) (hn : slots ≤ n) : OGo p.tables e below (OPostS Z EL s Q k n) (T.setTop g) := by
  obtain ⟨k0, hS, hk0⟩ := O.q
  obtain ⟨fs, hr, hrun, hended, ⟨v', e1⟩, hW, hI, hsame⟩ := X.leaveW hS (by rw [eT]; exact hk0) hv hlk
  subst eT hs0
  have hC : CHr Z EL vm T.heap T.vm T.heap := CHv.at X O.z hEL O.r.1
  exact ⟨_, _, hst fs hr, hrun, hended, _, _, rfl, hq, O.r.trans hC, ⟨_, rfl⟩, hW, hI, hsame.mono hk hn⟩
theorem own_backSH {y : MethodName} {bytes : ByteArray} {maxL : Nat} {ret : Option FieldType} {rm : Room} {len W : Nat} {as' : Array Value} {Q : Option Value → Heap → List Loc → Prop} {fs : List Addr}
    (hM : MetFree l y (head1 [Jvm.Cond.code y bytes maxL ret] rm) (fun a U => a = as' ∧ Z.Warmed39 U.vm ∧ U.heap = h ∧ CHv Z EL U.vm h ∧ ∀ x ∈ fs, Safe Z EL U.vm h x) (fun _ _ _ _ _ => True) (fun _ U o U' => ∃ v L, o = .returned v ∧ Q v U'.heap L ∧ CHr Z EL U.vm U.heap U'.vm U'.heap ∧ ReturnedEndW U o U' L rm.cells rm.slots))
    (hZ : Z.Warmed39 vm) (wc : (Jvm.Cond.code y bytes maxL ret).before a0 Z = true) (wz : (Jvm.Cond.initialized y.cls).before a0 Z = true) (hf : rm.frames + 1 ≤ R.frames) (hl : W + (maxL + 11) + rm.locals ≤ R.locals) (hEL : EW Z a0 EL) (H : CHv Z EL vm h) (hsf : ∀ x ∈ fs, x < h.size ∧ Safe Z EL vm h x) :
    BackS l R p e below (s.setVm vm) args y len W (fun A a => a = as' ∧ A.U.heap = h ∧ A.cells + rm.cells ≤ R.cells ∧ A.slots + rm.slots ≤ R.slots)
      (fun A _ v B => ∃ L, Q v B.U.heap L ∧ B.locs = A.locs ++ L ∧ B.cells = A.cells + rm.cells ∧ B.slots = A.slots + rm.slots ∧ CHr Z EL vm h B.U.vm B.U.heap) :=
  BackS.of_freeW (bytes := bytes) (maxL := maxL) (ret := ret) (E := fun _ first o t L k n => k = rm.cells ∧ n = rm.slots ∧ (∃ v, o = .returned v ∧ Q v t.heap L) ∧ CHr Z EL first.vm first.heap t.vm t.heap) hM hf hl
    (fun m meth c A a Y hp => have hU : Z.Warmed39 A.U.vm := wtrans (s := s.setVm vm) hZ Y.warmed
      ⟨by show (Jvm.Cond.and _ .tt).before a A.U = true; rw [Cond.before_and, mv hU wc]; rfl, mv hU wc, mv hU wz, hp.2.2.1, hp.2.2.2⟩)
    (fun m meth c A a g mk Y hp => ⟨hp.1, wtrans (s := s.setVm vm) hZ Y.warmed, hp.2.1, (CHv.at Y hZ hEL H).1, fun x hx => (CHv.at Y hZ hEL H).safe (hsf x hx).1 (hsf x hx).2⟩) (fun _ _ _ _ _ _ _ _ _ => trivial)
    (fun _ _ _ _ ⟨v, L, h1, h2, h3, h4⟩ => ⟨L, _, _, h4, rfl, rfl, ⟨v, h1, h2⟩, h3⟩)
    (fun m meth c A a g mk v t L k n Y hp _ _ ⟨e1, e2, ⟨v', e3, e4⟩, e5⟩ => by
      cases e3; subst e1 e2
      refine ⟨L, e4, rfl, rfl, rfl, (CHv.at Y hZ hEL H).trans ?_⟩
      rw [← hp.2.1]; exact e5)
theorem own_since (s : State) (k : Nat) : s.Since s.vm k := (State.WarmedH.refl s).since k
end OwnS
def own_EL : List (String × Nat) := []
theorem own_EW {Z : State} {a0 : Array Value} (hw : ∀ d ∈ tables_1, d.before a0 Z = true) : EW Z a0 own_EL := EW.nil
theorem own_wS {Z : State} {a0 : Array Value} (hw : ∀ d ∈ tables_1, d.before a0 Z = true) : ∀ a ∈ Bundle.stringAtoms, a.before a0 Z = true := by
  intro a ha
  simp only [Bundle.stringAtoms, List.mem_cons, List.not_mem_nil, or_false] at ha
  rcases ha with rfl | rfl | rfl | rfl | rfl | rfl | rfl
  · exact (hw _ (List.mem_of_getElem? (i := 23) rfl))
  · exact (hw _ (List.mem_of_getElem? (i := 24) rfl))
  · exact (hw _ (List.mem_of_getElem? (i := 25) rfl))
  · exact (hw _ (List.mem_of_getElem? (i := 26) rfl))
  · exact (hw _ (List.mem_of_getElem? (i := 27) rfl))
  · exact (hw _ (List.mem_of_getElem? (i := 28) rfl))
  · exact (hw _ (List.mem_of_getElem? (i := 29) rfl))
theorem own_sf {Z : State} {vm : Vm} {h : Heap} {x : Addr} : Safe Z own_EL vm h x := fun B => by obtain ⟨p, hp, -⟩ := B; cases hp
theorem own_narrow {C : String} {v : Value} (h : v.isRef = true) : narrow (.object C) v = v := by rcases ref_cases h with rfl | ⟨y, rfl⟩ <;> rfl
theorem own_fits {C : String} {v : Value} (h : v.isRef = true) : fits (.object C) v = true := by rcases ref_cases h with rfl | ⟨y, rfl⟩ <;> rfl
def own_P (pa ca : Addr) : Nat → Value := fun i => if i = 0 then .ref pa else .ref ca
def own_F (c0 c1 c2 c3 : Int64) : Nat → Value := fun i => if i = 0 then .long c0 else if i = 1 then .long c1 else if i = 2 then .long c2 else .long c3
def own_ft (v : Int64) (pa ca : Addr) : Value := if (1 : Int32).toInt64 = v then .ref pa else if (2 : Int32).toInt64 = v then .ref ca else .null
theorem own_t0 {c : Int32} {v : Int64} (h : own_t c v = 0) : ¬ c.toInt64 = v := fun q => by unfold own_t at h; rw [if_pos q] at h; cases h
theorem own_t1 {c : Int32} {v : Int64} (h : ¬ own_t c v = 0) : c.toInt64 = v := Classical.byContradiction fun q => h (by unfold own_t; rw [if_neg q])
theorem own_ftR (v : Int64) (pa ca : Addr) : (own_ft v pa ca).isRef = true := by unfold own_ft; (repeat' split) <;> rfl
theorem own_FF {f : Nat → Value} (v0 v1 v2 v3 : Int64) (i : Nat) (hi : i < (4 : Int32).toNatClampNeg) : own_upd (own_upd (own_upd (own_upd f (0 : Int32).toNatClampNeg (.long v0)) (1 : Int32).toNatClampNeg (.long v1)) (2 : Int32).toNatClampNeg (.long v2)) (3 : Int32).toNatClampNeg (.long v3) i = own_F v0 v1 v2 v3 i :=
  match i, hi with
  | 0, _ => rfl
  | 1, _ => rfl
  | 2, _ => rfl
  | 3, _ => rfl
  | (n_ + 4), q_ => absurd q_ (by show ¬ n_ + 4 < 4; omega)
theorem own_d_prog_37_method_2_code_0 : decode prog_37_method_2_code 0 = .ok (.lload_n 1, 1) := by decide +kernel
theorem own_d_prog_37_method_2_code_1 : decode prog_37_method_2_code 1 = .ok (.lload_n 3, 1) := by decide +kernel
theorem own_d_prog_37_method_2_code_2 : decode prog_37_method_2_code 2 = .ok (.lcmp, 1) := by decide +kernel
theorem own_d_prog_37_method_2_code_3 : decode prog_37_method_2_code 3 = .ok (.ifCond .lt 10, 3) := by decide +kernel
theorem own_d_prog_37_method_2_code_6 : decode prog_37_method_2_code 6 = .ok (.lload_n 1, 1) := by decide +kernel
theorem own_d_prog_37_method_2_code_7 : decode prog_37_method_2_code 7 = .ok (.lload 5, 2) := by decide +kernel
theorem own_d_prog_37_method_2_code_9 : decode prog_37_method_2_code 9 = .ok (.lcmp, 1) := by decide +kernel
theorem own_d_prog_37_method_2_code_10 : decode prog_37_method_2_code 10 = .ok (.ifCond .le 21, 3) := by decide +kernel
theorem own_d_prog_37_method_2_code_31 : decode prog_37_method_2_code 31 = .ok (.return_, 1) := by decide +kernel
theorem own_pn0 : plainName "com/example/crivo/crivo/Parameters" = true := by first | (simp [plainName, overriddenIn]; done) | decide +kernel
theorem own_ef_rm1 (m : MethodId) (x0 : Addr) (x1 : Int64) (x2 : Int64) (x3 : Int64) : entryFrame m #[(.ref x0), (.long x1), (.long x2), (.long x3)] 7 = mkF m 0 #[.val (.ref x0), .val (.long x1), .second, .val (.long x2), .second, .val (.long x3), .second] [] := by first | (simp [entryFrame, mkF, argsToLocals, Value.category]; done) | rfl
def own_Q_rm1 (Z : State) (nm : Addr) (q1 q2 q3 : Int64) (h0 : Heap) (n0 : Nat) (v : Option Value) (h : Heap) (L : List Loc) : Prop := v = none ∧ Fr n0 L ∧ h = h0
set_option maxRecDepth 65536 in
set_option maxHeartbeats 40000000 in
theorem rm1 (l : Launch) (Z : State) (a0 : Array Value) (hw : ∀ d ∈ tables_1, d.before a0 Z = true) (ws : List Jvm.Cond) (nm : Addr) (q1 q2 q3 : Int64) (h0 : Heap) (n0 : Nat) (Z0 : n0 ≤ h0.size) (h1 : ¬ q1 < q2) (h2 : ¬ q3 < q1) :
    OMet l Z (⟨"com/example/crivo/crivo/Parameters", "checkRange", "(Ljava/lang/String;JJJ)V"⟩ : MethodName) prog_37_method_2_code 7 none ws ({ frames := 0, cells := 0, slots := 0, locals := 0 } : Room) #[(.ref nm), (.long q1), (.long q2), (.long q3)] h0 (own_Q_rm1 Z nm q1 q2 q3 h0 n0) := by
  refine MetFree.of_bodySF (plainFor_of_name own_pn0) hisR ?_
  intro p e s m args below meth c s₁ Bd hml0 hP hK
  obtain ⟨rfl, hZ, hh⟩ := hP
  have hx := Bd.exec
  have hby := Bd.bytes
  have hml : c.maxLocals = 7 := hml0
  have hown : s.vm.findClass "com/example/crivo/crivo/Parameters" = some m.cls := findClass_of_methodNamed Bd.named
  have hnm := (name_of_methodNamed Bd.named Bd.method).1
  have hlk : meth.locks = false := Bd.notSynchronized
  have X0 : Stand p l e ({ frames := 0, cells := 0, slots := 0, locals := 0 } : Room) s m #[(.ref nm), (.long q1), (.long q2), (.long q3)] below meth c s₁ [] 0 0 := Stand.of_body Bd
  have e0 : s₁.heap = h0 := by rw [← hh, Bd.state]; rfl
  have N0 := Fr.nil n0
  refine OGo.enter (P := OPost s (own_Q_rm1 Z nm q1 q2 q3 h0 n0) 0 0) (own_ef_rm1 m nm q1 q2 q3) ?_
  show OGo p.tables e below _ (s₁.setTop (mkF m 0 #[.val (.ref nm), .val (.long q1), .second, .val (.long q2), .second, .val (.long q3), .second] []))
  refine OGo.st (fun _ k_ => XS.lloadN X0.here hx rfl (hb hby own_d_prog_37_method_2_code_0) rfl k_) ?_
  show OGo p.tables e below _ (s₁.setTop (mkF m 1 #[.val (.ref nm), .val (.long q1), .second, .val (.long q2), .second, .val (.long q3), .second] [(.long q1)]))
  refine OGo.st (fun _ k_ => XS.lloadN X0.here hx rfl (hb hby own_d_prog_37_method_2_code_1) rfl k_) ?_
  show OGo p.tables e below _ (s₁.setTop (mkF m 2 #[.val (.ref nm), .val (.long q1), .second, .val (.long q2), .second, .val (.long q3), .second] [(.long q2), (.long q1)]))
  refine OGo.st (fun _ k_ => XT.lcmp X0.here hx rfl (hb hby own_d_prog_37_method_2_code_2) rfl k_) ?_
  show OGo p.tables e below _ (s₁.setTop (mkF m 3 #[.val (.ref nm), .val (.long q1), .second, .val (.long q2), .second, .val (.long q3), .second] [(.int (XT.cmpL q1 q2))]))
  refine OGo.st (fun _ k_ => XS.ifNo X0.here hx rfl (hb hby own_d_prog_37_method_2_code_3) rfl (XT.ll_lt_f h1) k_) ?_
  show OGo p.tables e below _ (s₁.setTop (mkF m 6 #[.val (.ref nm), .val (.long q1), .second, .val (.long q2), .second, .val (.long q3), .second] []))
  refine OGo.st (fun _ k_ => XS.lloadN X0.here hx rfl (hb hby own_d_prog_37_method_2_code_6) rfl k_) ?_
  show OGo p.tables e below _ (s₁.setTop (mkF m 7 #[.val (.ref nm), .val (.long q1), .second, .val (.long q2), .second, .val (.long q3), .second] [(.long q1)]))
  refine OGo.st (fun _ k_ => XS.lload X0.here hx rfl (hb hby own_d_prog_37_method_2_code_7) rfl k_) ?_
  show OGo p.tables e below _ (s₁.setTop (mkF m 9 #[.val (.ref nm), .val (.long q1), .second, .val (.long q2), .second, .val (.long q3), .second] [(.long q3), (.long q1)]))
  refine OGo.st (fun _ k_ => XT.lcmp X0.here hx rfl (hb hby own_d_prog_37_method_2_code_9) rfl k_) ?_
  show OGo p.tables e below _ (s₁.setTop (mkF m 10 #[.val (.ref nm), .val (.long q1), .second, .val (.long q2), .second, .val (.long q3), .second] [(.int (XT.cmpL q1 q3))]))
  refine OGo.st (fun _ k_ => XS.ifYes X0.here hx rfl (pc0 := 10) (pc' := 31) rfl (hb hby own_d_prog_37_method_2_code_10) rfl (XT.ll_le_t h2) (by decide) (by decide) k_) ?_
  show OGo p.tables e below _ (s₁.setTop (mkF m 31 #[.val (.ref nm), .val (.long q1), .second, .val (.long q2), .second, .val (.long q3), .second] []))
  refine OGo.fin X0 (v := none) (fun _ => rfl) hlk (fun fs hr => X0.returnOut hx Bd.returns (hb hby own_d_prog_37_method_2_code_31) hr) ?_ (by decide) (by decide)
  show own_Q_rm1 Z nm q1 q2 q3 h0 n0 _ s₁.heap _
  rw [e0]
  exact ⟨rfl, N0, rfl⟩
theorem own_d_prog_37_method_6_code_0 : decode prog_37_method_6_code 0 = .ok (.aload_n 3, 1) := by decide +kernel
theorem own_d_prog_37_method_6_code_1 : decode prog_37_method_6_code 1 = .ok (.lload 4, 2) := by decide +kernel
theorem own_d_prog_37_method_6_code_3 : decode prog_37_method_6_code 3 = .ok (.lconst 1, 1) := by decide +kernel
theorem own_d_prog_37_method_6_code_4 : decode prog_37_method_6_code 4 = .ok (.lload 6, 2) := by decide +kernel
theorem own_d_prog_37_method_6_code_6 : decode prog_37_method_6_code 6 = .ok (.invokestatic 90, 3) := by decide +kernel
theorem own_pd0 : parseMethodDescriptor "(Ljava/lang/String;JJJ)V" = some ⟨[(.object "java/lang/String"), .long, .long, .long], none⟩ := by decide +kernel
theorem own_d_prog_37_method_6_code_9 : decode prog_37_method_6_code 9 = .ok (.aload_n 0, 1) := by decide +kernel
theorem own_d_prog_37_method_6_code_10 : decode prog_37_method_6_code 10 = .ok (.lload_n 1, 1) := by decide +kernel
theorem own_d_prog_37_method_6_code_11 : decode prog_37_method_6_code 11 = .ok (.lconst 1, 1) := by decide +kernel
theorem own_d_prog_37_method_6_code_12 : decode prog_37_method_6_code 12 = .ok (.ldc2_w 98, 3) := by decide +kernel
theorem own_d_prog_37_method_6_code_15 : decode prog_37_method_6_code 15 = .ok (.lload 4, 2) := by decide +kernel
theorem own_d_prog_37_method_6_code_17 : decode prog_37_method_6_code 17 = .ok (.ldiv, 1) := by decide +kernel
theorem own_d_prog_37_method_6_code_18 : decode prog_37_method_6_code 18 = .ok (.invokestatic 90, 3) := by decide +kernel
theorem own_d_prog_37_method_6_code_21 : decode prog_37_method_6_code 21 = .ok (.return_, 1) := by decide +kernel
theorem own_ef_rm2 (m : MethodId) (x0 : Addr) (x1 : Int64) (x2 : Addr) (x3 : Int64) (x4 : Int64) : entryFrame m #[(.ref x0), (.long x1), (.ref x2), (.long x3), (.long x4)] 8 = mkF m 0 #[.val (.ref x0), .val (.long x1), .second, .val (.ref x2), .val (.long x3), .second, .val (.long x4), .second] [] := by first | (simp [entryFrame, mkF, argsToLocals, Value.category]; done) | rfl
def own_Q_rm2 (Z : State) (n1 : Addr) (q1 : Int64) (n2 : Addr) (q2 : Int64) (h0 : Heap) (n0 : Nat) (v : Option Value) (h : Heap) (L : List Loc) : Prop := v = none ∧ Fr n0 L ∧ h = h0
set_option maxRecDepth 65536 in
set_option maxHeartbeats 40000000 in
theorem rm2 (l : Launch) (Z : State) (a0 : Array Value) (hw : ∀ d ∈ tables_1, d.before a0 Z = true) (ws : List Jvm.Cond) (n1 : Addr) (q1 : Int64) (n2 : Addr) (q2 : Int64) (h0 : Heap) (n0 : Nat) (Z0 : n0 ≤ h0.size) (h1 : ¬ q2 < (1 : Int64)) (h2 : ¬ (32 : Int64) < q2) (h3 : ¬ q1 < (1 : Int64)) (h4 : ¬ ((17179869184 : Int64) / q2) < q1) (h5 : q2 ≠ 0) :
    OMet l Z (⟨"com/example/crivo/crivo/Parameters", "checkFields", "(Ljava/lang/String;JLjava/lang/String;JJ)V"⟩ : MethodName) prog_37_method_6_code 8 none ws ({ frames := 1, cells := 0, slots := 0, locals := 18 } : Room) #[(.ref n1), (.long q1), (.ref n2), (.long q2), (.long (32 : Int64))] h0 (own_Q_rm2 Z n1 q1 n2 q2 h0 n0) := by
  refine MetFree.of_bodySF (plainFor_of_name own_pn0) hisR ?_
  intro p e s m args below meth c s₁ Bd hml0 hP hK
  obtain ⟨rfl, hZ, hh⟩ := hP
  have hx := Bd.exec
  have hby := Bd.bytes
  have hml : c.maxLocals = 8 := hml0
  have hown : s.vm.findClass "com/example/crivo/crivo/Parameters" = some m.cls := findClass_of_methodNamed Bd.named
  have hnm := (name_of_methodNamed Bd.named Bd.method).1
  have hlk : meth.locks = false := Bd.notSynchronized
  have X0 : Stand p l e ({ frames := 1, cells := 0, slots := 0, locals := 18 } : Room) s m #[(.ref n1), (.long q1), (.ref n2), (.long q2), (.long (32 : Int64))] below meth c s₁ [] 0 0 := Stand.of_body Bd
  have e0 : s₁.heap = h0 := by rw [← hh, Bd.state]; rfl
  have N0 := Fr.nil n0
  refine OGo.enter (P := OPost s (own_Q_rm2 Z n1 q1 n2 q2 h0 n0) 0 0) (own_ef_rm2 m n1 q1 n2 q2 (32 : Int64)) ?_
  show OGo p.tables e below _ (s₁.setTop (mkF m 0 #[.val (.ref n1), .val (.long q1), .second, .val (.ref n2), .val (.long q2), .second, .val (.long (32 : Int64)), .second] []))
  refine OGo.st (fun _ k_ => XS.aloadN X0.here hx rfl (hb hby own_d_prog_37_method_6_code_0) rfl rfl k_) ?_
  show OGo p.tables e below _ (s₁.setTop (mkF m 1 #[.val (.ref n1), .val (.long q1), .second, .val (.ref n2), .val (.long q2), .second, .val (.long (32 : Int64)), .second] [(.ref n2)]))
  refine OGo.st (fun _ k_ => XS.lload X0.here hx rfl (hb hby own_d_prog_37_method_6_code_1) rfl k_) ?_
  show OGo p.tables e below _ (s₁.setTop (mkF m 3 #[.val (.ref n1), .val (.long q1), .second, .val (.ref n2), .val (.long q2), .second, .val (.long (32 : Int64)), .second] [(.long q2), (.ref n2)]))
  refine OGo.st (fun _ k_ => XS.lconst X0.here hx rfl (hb hby own_d_prog_37_method_6_code_3) k_) ?_
  show OGo p.tables e below _ (s₁.setTop (mkF m 4 #[.val (.ref n1), .val (.long q1), .second, .val (.ref n2), .val (.long q2), .second, .val (.long (32 : Int64)), .second] [(.long (1 : Int64)), (.long q2), (.ref n2)]))
  refine OGo.st (fun _ k_ => XS.lload X0.here hx rfl (hb hby own_d_prog_37_method_6_code_4) rfl k_) ?_
  show OGo p.tables e below _ (s₁.setTop (mkF m 6 #[.val (.ref n1), .val (.long q1), .second, .val (.ref n2), .val (.long q2), .second, .val (.long (32 : Int64)), .second] [(.long (32 : Int64)), (.long (1 : Int64)), (.long q2), (.ref n2)]))
  obtain ⟨_, _, ⟨T1, Lz1, kz1, nz1⟩, -, X1, ⟨Lc1, hQ1, lz1, yz1, zz1⟩, st1⟩ := Jvm.LawKit.callS X0 hx (y := (⟨"com/example/crivo/crivo/Parameters", "checkRange", "(Ljava/lang/String;JJJ)V"⟩ : MethodName)) hown (mvT hZ (hw _ (List.mem_of_getElem? (i := 36) rfl))) (mvT hZ (hw _ (List.mem_of_getElem? (i := 37) rfl))) (mvT hZ (hw _ (List.mem_of_getElem? (i := 34) rfl))) (mvT hZ (hw _ (List.mem_of_getElem? (i := 38) rfl))) (by decide) (backOf (W := 0) (rm1 l Z a0 hw [] n2 q2 (1 : Int64) (32 : Int64) h0 n0 (Nat.le_trans Z0 (Keep.refl h0 []).1) h1 h2) hZ (hw _ (List.mem_of_getElem? (i := 38) rfl)) (hw _ (List.mem_of_getElem? (i := 34) rfl)) (by decide) (by decide)) (g := (mkF m 6 #[.val (.ref n1), .val (.long q1), .second, .val (.ref n2), .val (.long q2), .second, .val (.long (32 : Int64)), .second] [(.long (32 : Int64)), (.long (1 : Int64)), (.long q2), (.ref n2)])) rfl (by rw [hml]; rfl) (argsL := [(.ref n2), (.long q2), (.long (1 : Int64)), (.long (32 : Int64))]) (rest := []) (lenOf own_pd0 rfl) rfl (by show 2 * 0 + _ ≤ _; exact Nat.le_of_eq rfl) (hb hby own_d_prog_37_method_6_code_6) (fun _ _ => ⟨rfl, e0, (by decide : 0 + 0 ≤ _), (by decide : 0 + 0 ≤ _)⟩)
  dsimp only [Pt.U, Pt.locs, Pt.cells, Pt.slots] at X1 lz1 yz1 zz1 st1 hQ1
  subst lz1 yz1 zz1
  obtain ⟨rfl, Nq1, ez1⟩ := hQ1
  have N1 := Fr.app N0 Nq1
  refine OGo.st st1 ?_
  show OGo p.tables e below _ (T1.setTop (mkF m 9 #[.val (.ref n1), .val (.long q1), .second, .val (.ref n2), .val (.long q2), .second, .val (.long (32 : Int64)), .second] []))
  refine OGo.st (fun _ k_ => XS.aloadN X1.here hx rfl (hb hby own_d_prog_37_method_6_code_9) rfl rfl k_) ?_
  show OGo p.tables e below _ (T1.setTop (mkF m 10 #[.val (.ref n1), .val (.long q1), .second, .val (.ref n2), .val (.long q2), .second, .val (.long (32 : Int64)), .second] [(.ref n1)]))
  refine OGo.st (fun _ k_ => XS.lloadN X1.here hx rfl (hb hby own_d_prog_37_method_6_code_10) rfl k_) ?_
  show OGo p.tables e below _ (T1.setTop (mkF m 11 #[.val (.ref n1), .val (.long q1), .second, .val (.ref n2), .val (.long q2), .second, .val (.long (32 : Int64)), .second] [(.long q1), (.ref n1)]))
  refine OGo.st (fun _ k_ => XS.lconst X1.here hx rfl (hb hby own_d_prog_37_method_6_code_11) k_) ?_
  show OGo p.tables e below _ (T1.setTop (mkF m 12 #[.val (.ref n1), .val (.long q1), .second, .val (.ref n2), .val (.long q2), .second, .val (.long (32 : Int64)), .second] [(.long (1 : Int64)), (.long q1), (.ref n1)]))
  refine OGo.st (fun _ k_ => X1.ldc2J hx hown (mvT hZ (hw _ (List.mem_of_getElem? (i := 39) rfl))) rfl (hb hby own_d_prog_37_method_6_code_12) k_) ?_
  show OGo p.tables e below _ (T1.setTop (mkF m 15 #[.val (.ref n1), .val (.long q1), .second, .val (.ref n2), .val (.long q2), .second, .val (.long (32 : Int64)), .second] [(.long (17179869184 : Int64)), (.long (1 : Int64)), (.long q1), (.ref n1)]))
  refine OGo.st (fun _ k_ => XS.lload X1.here hx rfl (hb hby own_d_prog_37_method_6_code_15) rfl k_) ?_
  show OGo p.tables e below _ (T1.setTop (mkF m 17 #[.val (.ref n1), .val (.long q1), .second, .val (.ref n2), .val (.long q2), .second, .val (.long (32 : Int64)), .second] [(.long q2), (.long (17179869184 : Int64)), (.long (1 : Int64)), (.long q1), (.ref n1)]))
  refine OGo.st (fun _ k_ => XS.ldiv X1.here hx rfl (hb hby own_d_prog_37_method_6_code_17) rfl h5 k_) ?_
  show OGo p.tables e below _ (T1.setTop (mkF m 18 #[.val (.ref n1), .val (.long q1), .second, .val (.ref n2), .val (.long q2), .second, .val (.long (32 : Int64)), .second] [(.long ((17179869184 : Int64) / q2)), (.long (1 : Int64)), (.long q1), (.ref n1)]))
  obtain ⟨_, _, ⟨T2, Lz2, kz2, nz2⟩, -, X2, ⟨Lc2, hQ2, lz2, yz2, zz2⟩, st2⟩ := Jvm.LawKit.callS X1 hx (y := (⟨"com/example/crivo/crivo/Parameters", "checkRange", "(Ljava/lang/String;JJJ)V"⟩ : MethodName)) hown (mvT hZ (hw _ (List.mem_of_getElem? (i := 36) rfl))) (mvT hZ (hw _ (List.mem_of_getElem? (i := 37) rfl))) (mvT hZ (hw _ (List.mem_of_getElem? (i := 34) rfl))) (mvT hZ (hw _ (List.mem_of_getElem? (i := 38) rfl))) (by decide) (backOf (W := 0) (rm1 l Z a0 hw [] n1 q1 (1 : Int64) ((17179869184 : Int64) / q2) h0 n0 (Nat.le_trans Z0 (Keep.refl h0 []).1) h3 h4) hZ (hw _ (List.mem_of_getElem? (i := 38) rfl)) (hw _ (List.mem_of_getElem? (i := 34) rfl)) (by decide) (by decide)) (g := (mkF m 18 #[.val (.ref n1), .val (.long q1), .second, .val (.ref n2), .val (.long q2), .second, .val (.long (32 : Int64)), .second] [(.long ((17179869184 : Int64) / q2)), (.long (1 : Int64)), (.long q1), (.ref n1)])) rfl (by rw [hml]; rfl) (argsL := [(.ref n1), (.long q1), (.long (1 : Int64)), (.long ((17179869184 : Int64) / q2))]) (rest := []) (lenOf own_pd0 rfl) rfl (by show 2 * 0 + _ ≤ _; exact Nat.le_of_eq rfl) (hb hby own_d_prog_37_method_6_code_18) (fun _ _ => ⟨rfl, ez1, (by decide : 0 + 0 ≤ _), (by decide : 0 + 0 ≤ _)⟩)
  dsimp only [Pt.U, Pt.locs, Pt.cells, Pt.slots] at X2 lz2 yz2 zz2 st2 hQ2
  subst lz2 yz2 zz2
  obtain ⟨rfl, Nq2, ez2⟩ := hQ2
  have N2 := Fr.app N1 Nq2
  refine OGo.st st2 ?_
  show OGo p.tables e below _ (T2.setTop (mkF m 21 #[.val (.ref n1), .val (.long q1), .second, .val (.ref n2), .val (.long q2), .second, .val (.long (32 : Int64)), .second] []))
  refine OGo.fin X2 (v := none) (fun _ => rfl) hlk (fun fs hr => X2.returnOut hx Bd.returns (hb hby own_d_prog_37_method_6_code_21) hr) ?_ (by decide) (by decide)
  show own_Q_rm2 Z n1 q1 n2 q2 h0 n0 _ T2.heap _
  rw [ez2]
  exact ⟨rfl, N2, rfl⟩
theorem own_d_prog_14_method_6_code_0 : decode prog_14_method_6_code 0 = .ok (.ldc 59, 2) := by decide +kernel
theorem own_d_prog_14_method_6_code_2 : decode prog_14_method_6_code 2 = .ok (.lload_n 0, 1) := by decide +kernel
theorem own_d_prog_14_method_6_code_3 : decode prog_14_method_6_code 3 = .ok (.ldc 75, 2) := by decide +kernel
theorem own_d_prog_14_method_6_code_5 : decode prog_14_method_6_code 5 = .ok (.lload 4, 2) := by decide +kernel
theorem own_d_prog_14_method_6_code_7 : decode prog_14_method_6_code 7 = .ok (.ldc2_w 83, 3) := by decide +kernel
theorem own_d_prog_14_method_6_code_10 : decode prog_14_method_6_code 10 = .ok (.invokestatic 85, 3) := by decide +kernel
theorem own_pd1 : parseMethodDescriptor "(Ljava/lang/String;JLjava/lang/String;JJ)V" = some ⟨[(.object "java/lang/String"), .long, (.object "java/lang/String"), .long, .long], none⟩ := by decide +kernel
theorem own_d_prog_14_method_6_code_13 : decode prog_14_method_6_code 13 = .ok (.ldc 69, 2) := by decide +kernel
theorem own_d_prog_14_method_6_code_15 : decode prog_14_method_6_code 15 = .ok (.lload_n 2, 1) := by decide +kernel
theorem own_d_prog_14_method_6_code_16 : decode prog_14_method_6_code 16 = .ok (.lconst 1, 1) := by decide +kernel
theorem own_d_prog_14_method_6_code_17 : decode prog_14_method_6_code 17 = .ok (.ldc2_w 91, 3) := by decide +kernel
theorem own_d_prog_14_method_6_code_20 : decode prog_14_method_6_code 20 = .ok (.invokestatic 93, 3) := by decide +kernel
theorem own_d_prog_14_method_6_code_23 : decode prog_14_method_6_code 23 = .ok (.return_, 1) := by decide +kernel
theorem own_pn1 : plainName "com/example/crivo/crivo/CountingParameters" = true := by first | (simp [plainName, overriddenIn]; done) | decide +kernel
theorem own_ef_rm3 (m : MethodId) (x0 : Int64) (x1 : Int64) (x2 : Int64) : entryFrame m #[(.long x0), (.long x1), (.long x2)] 6 = mkF m 0 #[.val (.long x0), .second, .val (.long x1), .second, .val (.long x2), .second] [] := by first | (simp [entryFrame, mkF, argsToLocals, Value.category]; done) | rfl
def own_Q_rm3 (Z : State) (q1 q2 q3 : Int64) (h0 : Heap) (n0 : Nat) (v : Option Value) (h : Heap) (L : List Loc) : Prop := v = none ∧ Fr n0 L ∧ Keep h0 h []
set_option maxRecDepth 65536 in
set_option maxHeartbeats 40000000 in
theorem rm3 (l : Launch) (Z : State) (a0 : Array Value) (hw : ∀ d ∈ tables_1, d.before a0 Z = true) (ws : List Jvm.Cond) (q1 q2 q3 : Int64) (h0 : Heap) (n0 : Nat) (Z0 : n0 ≤ h0.size) (h1 : ¬ q3 < (1 : Int64)) (h2 : ¬ (32 : Int64) < q3) (h3 : ¬ q1 < (1 : Int64)) (h4 : ¬ ((17179869184 : Int64) / q3) < q1) (h5 : q3 ≠ 0) (h6 : ¬ q2 < (1 : Int64)) (h7 : ¬ (64 : Int64) < q2) :
    OMetS l Z own_EL ([] : List Addr) (⟨"com/example/crivo/crivo/CountingParameters", "check", "(JJJ)V"⟩ : MethodName) prog_14_method_6_code 6 none ws ({ frames := 2, cells := 6, slots := 116, locals := 37 } : Room) #[(.long q1), (.long q2), (.long q3)] h0 (own_Q_rm3 Z q1 q2 q3 h0 n0) := by
  refine MetFree.of_bodySF (plainFor_of_name own_pn1) hisR ?_
  intro p e s m args below meth c s₁ Bd hml0 hP hK
  obtain ⟨rfl, hZ, hh, hCH, hsf⟩ := hP
  have hx := Bd.exec
  have hby := Bd.bytes
  have hml : c.maxLocals = 6 := hml0
  have hown : s.vm.findClass "com/example/crivo/crivo/CountingParameters" = some m.cls := findClass_of_methodNamed Bd.named
  have hnm := (name_of_methodNamed Bd.named Bd.method).1
  have hlk : meth.locks = false := Bd.notSynchronized
  have X0 : Stand p l e ({ frames := 2, cells := 6, slots := 116, locals := 37 } : Room) (s.setVm s.vm) m #[(.long q1), (.long q2), (.long q3)] below meth c s₁ [] 0 0 := Stand.of_body Bd
  have O0 : OSt Z own_EL s m "com/example/crivo/crivo/CountingParameters" s.vm h0 h0 := ⟨hZ, hown, ⟨h0.size, own_since s _, Nat.le_refl _⟩, CHr.refl hCH⟩
  have hZ := O0.z
  have hown := O0.o
  have e0 : s₁.heap = h0 := by rw [← hh, Bd.state]; rfl
  have N0 := Fr.nil n0
  refine OGo.enter (P := OPostS Z own_EL s (own_Q_rm3 Z q1 q2 q3 h0 n0) 6 116) (own_ef_rm3 m q1 q2 q3) ?_
  show OGo p.tables e below _ (s₁.setTop (mkF m 0 #[.val (.long q1), .second, .val (.long q2), .second, .val (.long q3), .second] []))
  obtain ⟨lit1, T1, hz1, X1, ez1, Ez1, O1, sft1, st1⟩ := own_ldcO X0 hx O0 (hw _ (List.mem_of_getElem? (i := 22) rfl)) (own_wS hw) e0 (own_EW hw) (g := (mkF m 0 #[.val (.long q1), .second, .val (.long q2), .second, .val (.long q3), .second] [])) rfl (hb hby own_d_prog_14_method_6_code_0) (n := 32) (by decide) (by decide) (by decide) (by decide)
  have K_2 : Keep h0 hz1 [] := (Keep.refl h0 []).ext Ez1
  have hZ := O1.z
  have hown := O1.o
  refine OGo.st st1 ?_
  show OGo p.tables e below _ (T1.setTop (mkF m 2 #[.val (.long q1), .second, .val (.long q2), .second, .val (.long q3), .second] [(.ref lit1)]))
  refine OGo.st (fun _ k_ => XS.lloadN X1.here hx rfl (hb hby own_d_prog_14_method_6_code_2) rfl k_) ?_
  show OGo p.tables e below _ (T1.setTop (mkF m 3 #[.val (.long q1), .second, .val (.long q2), .second, .val (.long q3), .second] [(.long q1), (.ref lit1)]))
  obtain ⟨lit3, T3, hz3, X3, ez3, Ez3, O3, sft3, st3⟩ := own_ldcO X1 hx O1 (hw _ (List.mem_of_getElem? (i := 30) rfl)) (own_wS hw) ez1 (own_EW hw) (g := (mkF m 3 #[.val (.long q1), .second, .val (.long q2), .second, .val (.long q3), .second] [(.long q1), (.ref lit1)])) rfl (hb hby own_d_prog_14_method_6_code_3) (n := 48) (by decide) (by decide) (by decide) (by decide)
  have K_4 : Keep h0 hz3 [] := K_2.ext Ez3
  have hZ := O3.z
  have hown := O3.o
  refine OGo.st st3 ?_
  show OGo p.tables e below _ (T3.setTop (mkF m 5 #[.val (.long q1), .second, .val (.long q2), .second, .val (.long q3), .second] [(.ref lit3), (.long q1), (.ref lit1)]))
  refine OGo.st (fun _ k_ => XS.lload X3.here hx rfl (hb hby own_d_prog_14_method_6_code_5) rfl k_) ?_
  show OGo p.tables e below _ (T3.setTop (mkF m 7 #[.val (.long q1), .second, .val (.long q2), .second, .val (.long q3), .second] [(.long q3), (.ref lit3), (.long q1), (.ref lit1)]))
  refine OGo.st (fun _ k_ => X3.ldc2J hx hown (mvT hZ (hw _ (List.mem_of_getElem? (i := 31) rfl))) rfl (hb hby own_d_prog_14_method_6_code_7) k_) ?_
  show OGo p.tables e below _ (T3.setTop (mkF m 10 #[.val (.long q1), .second, .val (.long q2), .second, .val (.long q3), .second] [(.long (32 : Int64)), (.long q3), (.ref lit3), (.long q1), (.ref lit1)]))
  obtain ⟨_, _, ⟨T5, Lz5, kz5, nz5⟩, -, X5, ⟨Lc5, hQ5, lz5, yz5, zz5⟩, st5⟩ := Jvm.LawKit.callS X3 hx (y := (⟨"com/example/crivo/crivo/Parameters", "checkFields", "(Ljava/lang/String;JLjava/lang/String;JJ)V"⟩ : MethodName)) hown (mvT hZ (hw _ (List.mem_of_getElem? (i := 32) rfl))) (mvT hZ (hw _ (List.mem_of_getElem? (i := 33) rfl))) (mvT hZ (hw _ (List.mem_of_getElem? (i := 34) rfl))) (mvT hZ (hw _ (List.mem_of_getElem? (i := 35) rfl))) (by decide) (backOf (W := 0) (rm2 l Z a0 hw [] lit1 q1 lit3 q3 hz3 n0 (Nat.le_trans Z0 K_4.1) h1 h2 h3 h4 h5) hZ (hw _ (List.mem_of_getElem? (i := 35) rfl)) (hw _ (List.mem_of_getElem? (i := 34) rfl)) (by decide) (by decide)) (g := (mkF m 10 #[.val (.long q1), .second, .val (.long q2), .second, .val (.long q3), .second] [(.long (32 : Int64)), (.long q3), (.ref lit3), (.long q1), (.ref lit1)])) rfl (by rw [hml]; rfl) (argsL := [(.ref lit1), (.long q1), (.ref lit3), (.long q3), (.long (32 : Int64))]) (rest := []) (lenOf own_pd1 rfl) rfl (by show 2 * 0 + _ ≤ _; exact Nat.le_of_eq rfl) (hb hby own_d_prog_14_method_6_code_10) (fun _ _ => ⟨rfl, ez3, (by decide : 4 + 0 ≤ _), (by decide : 88 + 0 ≤ _)⟩)
  dsimp only [Pt.U, Pt.locs, Pt.cells, Pt.slots] at X5 lz5 yz5 zz5 st5 hQ5
  subst lz5 yz5 zz5
  obtain ⟨rfl, Nq5, ez5⟩ := hQ5
  have N5 := Fr.app N0 Nq5
  refine OGo.st st5 ?_
  show OGo p.tables e below _ (T5.setTop (mkF m 13 #[.val (.long q1), .second, .val (.long q2), .second, .val (.long q3), .second] []))
  obtain ⟨lit6, T6, hz6, X6, ez6, Ez6, O6, sft6, st6⟩ := own_ldcO X5 hx O3 (hw _ (List.mem_of_getElem? (i := 40) rfl)) (own_wS hw) ez5 (own_EW hw) (g := (mkF m 13 #[.val (.long q1), .second, .val (.long q2), .second, .val (.long q3), .second] [])) rfl (hb hby own_d_prog_14_method_6_code_13) (n := 24) (by decide) (by decide) (by decide) (by decide)
  have K_7 : Keep h0 hz6 [] := K_4.ext Ez6
  have hZ := O6.z
  have hown := O6.o
  refine OGo.st st6 ?_
  show OGo p.tables e below _ (T6.setTop (mkF m 15 #[.val (.long q1), .second, .val (.long q2), .second, .val (.long q3), .second] [(.ref lit6)]))
  refine OGo.st (fun _ k_ => XS.lloadN X6.here hx rfl (hb hby own_d_prog_14_method_6_code_15) rfl k_) ?_
  show OGo p.tables e below _ (T6.setTop (mkF m 16 #[.val (.long q1), .second, .val (.long q2), .second, .val (.long q3), .second] [(.long q2), (.ref lit6)]))
  refine OGo.st (fun _ k_ => XS.lconst X6.here hx rfl (hb hby own_d_prog_14_method_6_code_16) k_) ?_
  show OGo p.tables e below _ (T6.setTop (mkF m 17 #[.val (.long q1), .second, .val (.long q2), .second, .val (.long q3), .second] [(.long (1 : Int64)), (.long q2), (.ref lit6)]))
  refine OGo.st (fun _ k_ => X6.ldc2J hx hown (mvT hZ (hw _ (List.mem_of_getElem? (i := 41) rfl))) rfl (hb hby own_d_prog_14_method_6_code_17) k_) ?_
  show OGo p.tables e below _ (T6.setTop (mkF m 20 #[.val (.long q1), .second, .val (.long q2), .second, .val (.long q3), .second] [(.long (64 : Int64)), (.long (1 : Int64)), (.long q2), (.ref lit6)]))
  obtain ⟨_, _, ⟨T8, Lz8, kz8, nz8⟩, -, X8, ⟨Lc8, hQ8, lz8, yz8, zz8⟩, st8⟩ := Jvm.LawKit.callS X6 hx (y := (⟨"com/example/crivo/crivo/Parameters", "checkRange", "(Ljava/lang/String;JJJ)V"⟩ : MethodName)) hown (mvT hZ (hw _ (List.mem_of_getElem? (i := 42) rfl))) (mvT hZ (hw _ (List.mem_of_getElem? (i := 37) rfl))) (mvT hZ (hw _ (List.mem_of_getElem? (i := 34) rfl))) (mvT hZ (hw _ (List.mem_of_getElem? (i := 38) rfl))) (by decide) (backOf (W := 0) (rm1 l Z a0 hw [] lit6 q2 (1 : Int64) (64 : Int64) hz6 n0 (Nat.le_trans Z0 K_7.1) h6 h7) hZ (hw _ (List.mem_of_getElem? (i := 38) rfl)) (hw _ (List.mem_of_getElem? (i := 34) rfl)) (by decide) (by decide)) (g := (mkF m 20 #[.val (.long q1), .second, .val (.long q2), .second, .val (.long q3), .second] [(.long (64 : Int64)), (.long (1 : Int64)), (.long q2), (.ref lit6)])) rfl (by rw [hml]; rfl) (argsL := [(.ref lit6), (.long q2), (.long (1 : Int64)), (.long (64 : Int64))]) (rest := []) (lenOf own_pd0 rfl) rfl (by show 2 * 0 + _ ≤ _; exact Nat.le_of_eq rfl) (hb hby own_d_prog_14_method_6_code_20) (fun _ _ => ⟨rfl, ez6, (by decide : 6 + 0 ≤ _), (by decide : 116 + 0 ≤ _)⟩)
  dsimp only [Pt.U, Pt.locs, Pt.cells, Pt.slots] at X8 lz8 yz8 zz8 st8 hQ8
  subst lz8 yz8 zz8
  obtain ⟨rfl, Nq8, ez8⟩ := hQ8
  have N8 := Fr.app N5 Nq8
  refine OGo.st st8 ?_
  show OGo p.tables e below _ (T8.setTop (mkF m 23 #[.val (.long q1), .second, .val (.long q2), .second, .val (.long q3), .second] []))
  refine OGo.finS X8 ez8 O6 (own_EW hw) hh (v := none) (fun _ => rfl) hlk (fun fs hr => X8.returnOut hx Bd.returns (hb hby own_d_prog_14_method_6_code_23) hr) ?_ (by decide) (by decide)
  show own_Q_rm3 Z q1 q2 q3 h0 n0 _ T8.heap _
  rw [ez8]
  exact ⟨rfl, N8, K_7⟩
theorem own_d_jdk_31_method_11_code_0 : decode jdk_31_method_11_code 0 = .ok (.aload_n 0, 1) := by decide +kernel
theorem own_d_jdk_31_method_11_code_1 : decode jdk_31_method_11_code 1 = .ok (.ifnonnull 12, 3) := by decide +kernel
theorem own_d_jdk_31_method_11_code_13 : decode jdk_31_method_11_code 13 = .ok (.aload_n 0, 1) := by decide +kernel
theorem own_d_jdk_31_method_11_code_14 : decode jdk_31_method_11_code 14 = .ok (.areturn, 1) := by decide +kernel
theorem own_pn2 : plainName "java/util/Objects" = true := by first | (simp [plainName, overriddenIn]; done) | decide +kernel
theorem own_ef_rm4 (m : MethodId) (x0 : Addr) (x1 : Addr) : entryFrame m #[(.ref x0), (.ref x1)] 2 = mkF m 0 #[.val (.ref x0), .val (.ref x1)] [] := by first | (simp [entryFrame, mkF, argsToLocals, Value.category]; done) | rfl
def own_Q_rm4 (Z : State) (x1 x2 : Addr) (h0 : Heap) (n0 : Nat) (v : Option Value) (h : Heap) (L : List Loc) : Prop := v = some (.ref x1) ∧ Fr n0 L ∧ h = h0
set_option maxRecDepth 65536 in
set_option maxHeartbeats 40000000 in
theorem rm4 (l : Launch) (Z : State) (a0 : Array Value) (hw : ∀ d ∈ tables_1, d.before a0 Z = true) (ws : List Jvm.Cond) (x1 x2 : Addr) (h0 : Heap) (n0 : Nat) (Z0 : n0 ≤ h0.size)  :
    OMet l Z (⟨"java/util/Objects", "requireNonNull", "(Ljava/lang/Object;Ljava/lang/String;)Ljava/lang/Object;"⟩ : MethodName) jdk_31_method_11_code 2 (some (.object "java/lang/Object")) ws ({ frames := 0, cells := 0, slots := 0, locals := 0 } : Room) #[(.ref x1), (.ref x2)] h0 (own_Q_rm4 Z x1 x2 h0 n0) := by
  refine MetFree.of_bodySF (plainFor_of_name own_pn2) hisR ?_
  intro p e s m args below meth c s₁ Bd hml0 hP hK
  obtain ⟨rfl, hZ, hh⟩ := hP
  have hx := Bd.exec
  have hby := Bd.bytes
  have hml : c.maxLocals = 2 := hml0
  have hown : s.vm.findClass "java/util/Objects" = some m.cls := findClass_of_methodNamed Bd.named
  have hnm := (name_of_methodNamed Bd.named Bd.method).1
  have hlk : meth.locks = false := Bd.notSynchronized
  have X0 : Stand p l e ({ frames := 0, cells := 0, slots := 0, locals := 0 } : Room) s m #[(.ref x1), (.ref x2)] below meth c s₁ [] 0 0 := Stand.of_body Bd
  have e0 : s₁.heap = h0 := by rw [← hh, Bd.state]; rfl
  have N0 := Fr.nil n0
  refine OGo.enter (P := OPost s (own_Q_rm4 Z x1 x2 h0 n0) 0 0) (own_ef_rm4 m x1 x2) ?_
  show OGo p.tables e below _ (s₁.setTop (mkF m 0 #[.val (.ref x1), .val (.ref x2)] []))
  refine OGo.st (fun _ k_ => XS.aloadN X0.here hx rfl (hb hby own_d_jdk_31_method_11_code_0) rfl rfl k_) ?_
  show OGo p.tables e below _ (s₁.setTop (mkF m 1 #[.val (.ref x1), .val (.ref x2)] [(.ref x1)]))
  refine OGo.st (fun _ k_ => XT.nonnullYes X0.here hx rfl (pc0 := 1) (pc' := 13) rfl (hb hby own_d_jdk_31_method_11_code_1) rfl rfl (fun q => nomatch q) (by decide) (by decide) k_) ?_
  show OGo p.tables e below _ (s₁.setTop (mkF m 13 #[.val (.ref x1), .val (.ref x2)] []))
  refine OGo.st (fun _ k_ => XS.aloadN X0.here hx rfl (hb hby own_d_jdk_31_method_11_code_13) rfl rfl k_) ?_
  show OGo p.tables e below _ (s₁.setTop (mkF m 14 #[.val (.ref x1), .val (.ref x2)] [(.ref x1)]))
  refine OGo.fin X0 (v := some (.ref x1)) (fun h => by rw [Bd.returns] at h; cases h) hlk (fun fs hr => X0.areturnOut hx rfl Bd.returns rfl (hb hby own_d_jdk_31_method_11_code_14) hr) ?_ (by decide) (by decide)
  show own_Q_rm4 Z x1 x2 h0 n0 _ s₁.heap _
  rw [e0]
  exact ⟨rfl, N0, rfl⟩
theorem own_d_jdk_30_method_1_code_0 : decode jdk_30_method_1_code 0 = .ok (.aload_n 0, 1) := by decide +kernel
theorem own_d_jdk_30_method_1_code_1 : decode jdk_30_method_1_code 1 = .ok (.invokespecial 1, 3) := by decide +kernel
theorem own_d_jdk_30_method_1_code_4 : decode jdk_30_method_1_code 4 = .ok (.return_, 1) := by decide +kernel
theorem own_pn3 : plainName "java/lang/Record" = true := by first | (simp [plainName, overriddenIn]; done) | decide +kernel
theorem own_ef_rm5 (m : MethodId) (x0 : Addr) : entryFrame m #[(.ref x0)] 1 = mkF m 0 #[.val (.ref x0)] [] := by first | (simp [entryFrame, mkF, argsToLocals, Value.category]; done) | rfl
def own_Q_rm5 (Z : State) (a1 : Addr) (h0 : Heap) (n0 : Nat) (v : Option Value) (h : Heap) (L : List Loc) : Prop := v = none ∧ Fr n0 L ∧ h = h0
set_option maxRecDepth 65536 in
set_option maxHeartbeats 40000000 in
theorem rm5 (l : Launch) (Z : State) (a0 : Array Value) (hw : ∀ d ∈ tables_1, d.before a0 Z = true) (ws : List Jvm.Cond) (a1 : Addr) (h0 : Heap) (n0 : Nat) (Z0 : n0 ≤ h0.size)  :
    OMet l Z (⟨"java/lang/Record", "<init>", "()V"⟩ : MethodName) jdk_30_method_1_code 1 none ws ({ frames := 1, cells := 0, slots := 0, locals := 12 } : Room) #[(.ref a1)] h0 (own_Q_rm5 Z a1 h0 n0) := by
  refine MetFree.of_bodySF (plainFor_of_name own_pn3) hisR ?_
  intro p e s m args below meth c s₁ Bd hml0 hP hK
  obtain ⟨rfl, hZ, hh⟩ := hP
  have hx := Bd.exec
  have hby := Bd.bytes
  have hml : c.maxLocals = 1 := hml0
  have hown : s.vm.findClass "java/lang/Record" = some m.cls := findClass_of_methodNamed Bd.named
  have hnm := (name_of_methodNamed Bd.named Bd.method).1
  have hlk : meth.locks = false := Bd.notSynchronized
  have X0 : Stand p l e ({ frames := 1, cells := 0, slots := 0, locals := 12 } : Room) s m #[(.ref a1)] below meth c s₁ [] 0 0 := Stand.of_body Bd
  have e0 : s₁.heap = h0 := by rw [← hh, Bd.state]; rfl
  have N0 := Fr.nil n0
  refine OGo.enter (P := OPost s (own_Q_rm5 Z a1 h0 n0) 0 0) (own_ef_rm5 m a1) ?_
  show OGo p.tables e below _ (s₁.setTop (mkF m 0 #[.val (.ref a1)] []))
  refine OGo.st (fun _ k_ => XS.aloadN X0.here hx rfl (hb hby own_d_jdk_30_method_1_code_0) rfl rfl k_) ?_
  show OGo p.tables e below _ (s₁.setTop (mkF m 1 #[.val (.ref a1)] [(.ref a1)]))
  obtain ⟨T1, X1, ez1, st1⟩ := initO X0 hx hZ hown (hw _ (List.mem_of_getElem? (i := 16) rfl)) (hw _ (List.mem_of_getElem? (i := 17) rfl)) (hw _ (List.mem_of_getElem? (i := 18) rfl)) e0 (g := (mkF m 1 #[.val (.ref a1)] [(.ref a1)])) rfl (by rw [hml]; rfl) rfl (hb hby own_d_jdk_30_method_1_code_1) (by decide) (W := 0) (by show 2 * 0 + _ ≤ _; exact Nat.le_of_eq rfl) (by decide)
  refine OGo.st st1 ?_
  show OGo p.tables e below _ (T1.setTop (mkF m 4 #[.val (.ref a1)] []))
  refine OGo.fin X1 (v := none) (fun _ => rfl) hlk (fun fs hr => X1.returnOut hx Bd.returns (hb hby own_d_jdk_30_method_1_code_4) hr) ?_ (by decide) (by decide)
  show own_Q_rm5 Z a1 h0 n0 _ T1.heap _
  rw [ez1]
  exact ⟨rfl, N0, rfl⟩
theorem own_d_prog_14_method_1_code_0 : decode prog_14_method_1_code 0 = .ok (.aload_n 0, 1) := by decide +kernel
theorem own_d_prog_14_method_1_code_1 : decode prog_14_method_1_code 1 = .ok (.invokespecial 1, 3) := by decide +kernel
theorem own_pd2 : parseMethodDescriptor "()V" = some ⟨[], none⟩ := by decide +kernel
theorem own_d_prog_14_method_1_code_4 : decode prog_14_method_1_code 4 = .ok (.lload_n 1, 1) := by decide +kernel
theorem own_d_prog_14_method_1_code_5 : decode prog_14_method_1_code 5 = .ok (.iload_n 3, 1) := by decide +kernel
theorem own_d_prog_14_method_1_code_6 : decode prog_14_method_1_code 6 = .ok (.i2l, 1) := by decide +kernel
theorem own_d_prog_14_method_1_code_7 : decode prog_14_method_1_code 7 = .ok (.iload 4, 2) := by decide +kernel
theorem own_d_prog_14_method_1_code_9 : decode prog_14_method_1_code 9 = .ok (.i2l, 1) := by decide +kernel
theorem own_d_prog_14_method_1_code_10 : decode prog_14_method_1_code 10 = .ok (.invokestatic 7, 3) := by decide +kernel
theorem own_pd3 : parseMethodDescriptor "(JJJ)V" = some ⟨[.long, .long, .long], none⟩ := by decide +kernel
theorem own_d_prog_14_method_1_code_13 : decode prog_14_method_1_code 13 = .ok (.aload 5, 2) := by decide +kernel
theorem own_d_prog_14_method_1_code_15 : decode prog_14_method_1_code 15 = .ok (.ldc 13, 2) := by decide +kernel
theorem own_d_prog_14_method_1_code_17 : decode prog_14_method_1_code 17 = .ok (.invokestatic 15, 3) := by decide +kernel
theorem own_pd4 : parseMethodDescriptor "(Ljava/lang/Object;Ljava/lang/String;)Ljava/lang/Object;" = some ⟨[(.object "java/lang/Object"), (.object "java/lang/String")], some (.object "java/lang/Object")⟩ := by decide +kernel
theorem own_d_prog_14_method_1_code_20 : decode prog_14_method_1_code 20 = .ok (.pop, 1) := by decide +kernel
theorem own_d_prog_14_method_1_code_21 : decode prog_14_method_1_code 21 = .ok (.aload_n 0, 1) := by decide +kernel
theorem own_d_prog_14_method_1_code_22 : decode prog_14_method_1_code 22 = .ok (.lload_n 1, 1) := by decide +kernel
theorem own_d_prog_14_method_1_code_23 : decode prog_14_method_1_code 23 = .ok (.putfield 21, 3) := by decide +kernel
theorem own_d_prog_14_method_1_code_26 : decode prog_14_method_1_code 26 = .ok (.aload_n 0, 1) := by decide +kernel
theorem own_d_prog_14_method_1_code_27 : decode prog_14_method_1_code 27 = .ok (.iload_n 3, 1) := by decide +kernel
theorem own_d_prog_14_method_1_code_28 : decode prog_14_method_1_code 28 = .ok (.putfield 25, 3) := by decide +kernel
theorem own_d_prog_14_method_1_code_31 : decode prog_14_method_1_code 31 = .ok (.aload_n 0, 1) := by decide +kernel
theorem own_d_prog_14_method_1_code_32 : decode prog_14_method_1_code 32 = .ok (.iload 4, 2) := by decide +kernel
theorem own_d_prog_14_method_1_code_34 : decode prog_14_method_1_code 34 = .ok (.putfield 29, 3) := by decide +kernel
theorem own_d_prog_14_method_1_code_37 : decode prog_14_method_1_code 37 = .ok (.aload_n 0, 1) := by decide +kernel
theorem own_d_prog_14_method_1_code_38 : decode prog_14_method_1_code 38 = .ok (.aload 5, 2) := by decide +kernel
theorem own_d_prog_14_method_1_code_40 : decode prog_14_method_1_code 40 = .ok (.putfield 32, 3) := by decide +kernel
theorem own_d_prog_14_method_1_code_43 : decode prog_14_method_1_code 43 = .ok (.return_, 1) := by decide +kernel
theorem own_ef_rm6 (m : MethodId) (x0 : Addr) (x1 : Int64) (x2 : Int32) (x3 : Int32) (x4 : Addr) : entryFrame m #[(.ref x0), (.long x1), (.int x2), (.int x3), (.ref x4)] 6 = mkF m 0 #[.val (.ref x0), .val (.long x1), .second, .val (.int x2), .val (.int x3), .val (.ref x4)] [] := by first | (simp [entryFrame, mkF, argsToLocals, Value.category]; done) | rfl
def own_Q_rm6 (Z : State) (a1 : Addr) (q1 : Int64) (hI cI : Int32) (r : Addr) (h0 : Heap) (n0 : Nat) (v : Option Value) (h : Heap) (L : List Loc) : Prop := v = none ∧ Fr n0 L ∧ Keep h0 h [a1] ∧ Fld Z h a1 "com/example/crivo/crivo/CountingParameters" "counters" "J" (.long q1) ∧ Fld Z h a1 "com/example/crivo/crivo/CountingParameters" "hashes" "I" (.int hI) ∧ Fld Z h a1 "com/example/crivo/crivo/CountingParameters" "counterBits" "I" (.int cI) ∧ Fld Z h a1 "com/example/crivo/crivo/CountingParameters" "update" "Lcom/example/crivo/crivo/UpdateRule;" (.ref r)
set_option maxRecDepth 65536 in
set_option maxHeartbeats 40000000 in
theorem rm6 (l : Launch) (Z : State) (a0 : Array Value) (hw : ∀ d ∈ tables_1, d.before a0 Z = true) (ws : List Jvm.Cond) (a1 : Addr) (q1 : Int64) (hI cI : Int32) (r : Addr) (h0 : Heap) (n0 : Nat) (Z0 : n0 ≤ h0.size) (h1 : ¬ cI.toInt64 < (1 : Int64)) (h2 : ¬ (32 : Int64) < cI.toInt64) (h3 : ¬ q1 < (1 : Int64)) (h4 : ¬ ((17179869184 : Int64) / cI.toInt64) < q1) (h5 : cI.toInt64 ≠ 0) (h6 : ¬ hI.toInt64 < (1 : Int64)) (h7 : ¬ (64 : Int64) < hI.toInt64) (E_a1 : Exa Z h0 a1 "com/example/crivo/crivo/CountingParameters") (F_counters_a1 : Fld Z h0 a1 "com/example/crivo/crivo/CountingParameters" "counters" "J" (.long (0 : Int64))) (F_hashes_a1 : Fld Z h0 a1 "com/example/crivo/crivo/CountingParameters" "hashes" "I" (.int (0 : Int32))) (F_counterBits_a1 : Fld Z h0 a1 "com/example/crivo/crivo/CountingParameters" "counterBits" "I" (.int (0 : Int32))) (F_update_a1 : Fld Z h0 a1 "com/example/crivo/crivo/CountingParameters" "update" "Lcom/example/crivo/crivo/UpdateRule;" .null) (g_a1 : n0 ≤ a1) :
    OMetS l Z own_EL ([] : List Addr) (⟨"com/example/crivo/crivo/CountingParameters", "<init>", "(JIILcom/example/crivo/crivo/UpdateRule;)V"⟩ : MethodName) prog_14_method_1_code 6 none ws ({ frames := 3, cells := 8, slots := 144, locals := 54 } : Room) #[(.ref a1), (.long q1), (.int hI), (.int cI), (.ref r)] h0 (own_Q_rm6 Z a1 q1 hI cI r h0 n0) := by
  refine MetFree.of_bodySF (plainFor_of_name own_pn1) hisR ?_
  intro p e s m args below meth c s₁ Bd hml0 hP hK
  obtain ⟨rfl, hZ, hh, hCH, hsf⟩ := hP
  have hx := Bd.exec
  have hby := Bd.bytes
  have hml : c.maxLocals = 6 := hml0
  have hown : s.vm.findClass "com/example/crivo/crivo/CountingParameters" = some m.cls := findClass_of_methodNamed Bd.named
  have hnm := (name_of_methodNamed Bd.named Bd.method).1
  have hlk : meth.locks = false := Bd.notSynchronized
  have X0 : Stand p l e ({ frames := 3, cells := 8, slots := 144, locals := 54 } : Room) (s.setVm s.vm) m #[(.ref a1), (.long q1), (.int hI), (.int cI), (.ref r)] below meth c s₁ [] 0 0 := Stand.of_body Bd
  have O0 : OSt Z own_EL s m "com/example/crivo/crivo/CountingParameters" s.vm h0 h0 := ⟨hZ, hown, ⟨h0.size, own_since s _, Nat.le_refl _⟩, CHr.refl hCH⟩
  have hZ := O0.z
  have hown := O0.o
  have e0 : s₁.heap = h0 := by rw [← hh, Bd.state]; rfl
  have N0 := Fr.nil n0
  refine OGo.enter (P := OPostS Z own_EL s (own_Q_rm6 Z a1 q1 hI cI r h0 n0) 8 144) (own_ef_rm6 m a1 q1 hI cI r) ?_
  show OGo p.tables e below _ (s₁.setTop (mkF m 0 #[.val (.ref a1), .val (.long q1), .second, .val (.int hI), .val (.int cI), .val (.ref r)] []))
  refine OGo.st (fun _ k_ => XS.aloadN X0.here hx rfl (hb hby own_d_prog_14_method_1_code_0) rfl rfl k_) ?_
  show OGo p.tables e below _ (s₁.setTop (mkF m 1 #[.val (.ref a1), .val (.long q1), .second, .val (.int hI), .val (.int cI), .val (.ref r)] [(.ref a1)]))
  obtain ⟨_, _, ⟨T1, Lz1, kz1, nz1⟩, -, X1, ⟨Lc1, hQ1, lz1, yz1, zz1⟩, st1⟩ := X0.specialBack hx (y := (⟨"java/lang/Record", "<init>", "()V"⟩ : MethodName)) rfl hown (mvT hZ (hw _ (List.mem_of_getElem? (i := 11) rfl))) (mvT hZ (hw _ (List.mem_of_getElem? (i := 12) rfl))) (mvT hZ (hw _ (List.mem_of_getElem? (i := 15) rfl))) (by decide) (backOf (W := 0) (rm5 l Z a0 hw [] a1 h0 n0 (Nat.le_trans Z0 (Keep.refl h0 [a1]).1) ) hZ (hw _ (List.mem_of_getElem? (i := 15) rfl)) (hw _ (List.mem_of_getElem? (i := 14) rfl)) (by decide) (by decide)) (g := (mkF m 1 #[.val (.ref a1), .val (.long q1), .second, .val (.int hI), .val (.int cI), .val (.ref r)] [(.ref a1)])) rfl (by rw [hml]; rfl) (Steps.refl _) (a := a1) (argsL := []) (rest := []) (lenOf own_pd2 rfl) rfl (by show 2 * 0 + _ ≤ _; exact Nat.le_of_eq rfl) (hb hby own_d_prog_14_method_1_code_1) (fun _ _ => ⟨rfl, e0, (by decide : 0 + 0 ≤ _), (by decide : 0 + 0 ≤ _)⟩)
  dsimp only [Pt.U, Pt.locs, Pt.cells, Pt.slots] at X1 lz1 yz1 zz1 st1 hQ1
  subst lz1 yz1 zz1
  obtain ⟨rfl, Nq1, ez1⟩ := hQ1
  have N1 := Fr.app N0 Nq1
  refine OGo.tr st1 ?_
  show OGo p.tables e below _ (T1.setTop (mkF m 4 #[.val (.ref a1), .val (.long q1), .second, .val (.int hI), .val (.int cI), .val (.ref r)] []))
  refine OGo.st (fun _ k_ => XS.lloadN X1.here hx rfl (hb hby own_d_prog_14_method_1_code_4) rfl k_) ?_
  show OGo p.tables e below _ (T1.setTop (mkF m 5 #[.val (.ref a1), .val (.long q1), .second, .val (.int hI), .val (.int cI), .val (.ref r)] [(.long q1)]))
  refine OGo.st (fun _ k_ => XS.iloadN X1.here hx rfl (hb hby own_d_prog_14_method_1_code_5) rfl k_) ?_
  show OGo p.tables e below _ (T1.setTop (mkF m 6 #[.val (.ref a1), .val (.long q1), .second, .val (.int hI), .val (.int cI), .val (.ref r)] [(.int hI), (.long q1)]))
  refine OGo.st (fun _ k_ => XS.i2l X1.here hx rfl (hb hby own_d_prog_14_method_1_code_6) rfl k_) ?_
  show OGo p.tables e below _ (T1.setTop (mkF m 7 #[.val (.ref a1), .val (.long q1), .second, .val (.int hI), .val (.int cI), .val (.ref r)] [(.long hI.toInt64), (.long q1)]))
  refine OGo.st (fun _ k_ => XS.iload X1.here hx rfl (hb hby own_d_prog_14_method_1_code_7) rfl k_) ?_
  show OGo p.tables e below _ (T1.setTop (mkF m 9 #[.val (.ref a1), .val (.long q1), .second, .val (.int hI), .val (.int cI), .val (.ref r)] [(.int cI), (.long hI.toInt64), (.long q1)]))
  refine OGo.st (fun _ k_ => XS.i2l X1.here hx rfl (hb hby own_d_prog_14_method_1_code_9) rfl k_) ?_
  show OGo p.tables e below _ (T1.setTop (mkF m 10 #[.val (.ref a1), .val (.long q1), .second, .val (.int hI), .val (.int cI), .val (.ref r)] [(.long cI.toInt64), (.long hI.toInt64), (.long q1)]))
  have hsc2 : ∀ x ∈ ([] : List Addr), x < h0.size ∧ Safe Z own_EL s.vm h0 x := all0
  obtain ⟨_, _, ⟨T2, Lz2, kz2, nz2⟩, -, X2, sn2, gn2, ⟨Lc2, hQ2, lz2, yz2, zz2, cr2⟩, st2⟩ := callSS X1 hx (y := (⟨"com/example/crivo/crivo/CountingParameters", "check", "(JJJ)V"⟩ : MethodName)) hown (mvT hZ (hw _ (List.mem_of_getElem? (i := 19) rfl))) (mvT hZ (hw _ (List.mem_of_getElem? (i := 20) rfl))) (mvT hZ (hw _ (List.mem_of_getElem? (i := 7) rfl))) (mvT hZ (hw _ (List.mem_of_getElem? (i := 21) rfl))) (by decide) (own_backSH (W := 0) (rm3 l Z a0 hw [] q1 hI.toInt64 cI.toInt64 h0 n0 (Nat.le_trans Z0 (Keep.refl h0 [a1]).1) h1 h2 h3 h4 h5 h6 h7) hZ (hw _ (List.mem_of_getElem? (i := 21) rfl)) (hw _ (List.mem_of_getElem? (i := 7) rfl)) (by decide) (by decide) (own_EW hw) O0.r.1 hsc2) (g := (mkF m 10 #[.val (.ref a1), .val (.long q1), .second, .val (.int hI), .val (.int cI), .val (.ref r)] [(.long cI.toInt64), (.long hI.toInt64), (.long q1)])) rfl (by rw [hml]; rfl) (argsL := [(.long q1), (.long hI.toInt64), (.long cI.toInt64)]) (rest := []) (lenOf own_pd3 rfl) rfl (by show 2 * 0 + _ ≤ _; exact Nat.le_of_eq rfl) (hb hby own_d_prog_14_method_1_code_10) (fun _ _ => ⟨rfl, ez1, (by decide : 0 + 6 ≤ _), (by decide : 0 + 116 ≤ _)⟩)
  dsimp only [Pt.U, Pt.locs, Pt.cells, Pt.slots] at X2 sn2 gn2 lz2 yz2 zz2 cr2 st2 hQ2
  subst lz2 yz2 zz2
  have O2 := O0.call sn2 ez1 gn2 cr2
  have X2 : Stand p l e ({ frames := 3, cells := 8, slots := 144, locals := 54 } : Room) (s.setVm T2.vm) m #[(.ref a1), (.long q1), (.int hI), (.int cI), (.ref r)] below meth c T2 _ _ _ := X2
  have hZ := O2.z
  have hown := O2.o
  obtain ⟨rfl, Nq2, Kq2⟩ := hQ2
  have N2 := Fr.app N1 Nq2
  have Ex_3 := E_a1.keep Kq2
  have F_4 := F_counters_a1.keep Kq2 nin0
  have F_5 := F_hashes_a1.keep Kq2 nin0
  have F_6 := F_counterBits_a1.keep Kq2 nin0
  have F_7 := F_update_a1.keep Kq2 nin0
  have K_8 : Keep h0 T2.heap [a1] := (Keep.refl h0 [a1]).trans Kq2 all0
  refine OGo.tr st2 ?_
  show OGo p.tables e below _ (T2.setTop (mkF m 13 #[.val (.ref a1), .val (.long q1), .second, .val (.int hI), .val (.int cI), .val (.ref r)] []))
  refine OGo.st (fun _ k_ => XS.aload X2.here hx rfl (hb hby own_d_prog_14_method_1_code_13) rfl rfl k_) ?_
  show OGo p.tables e below _ (T2.setTop (mkF m 15 #[.val (.ref a1), .val (.long q1), .second, .val (.int hI), .val (.int cI), .val (.ref r)] [(.ref r)]))
  obtain ⟨lit9, T9, hz9, X9, ez9, Ez9, O9, sft9, st9⟩ := own_ldcO X2 hx O2 (hw _ (List.mem_of_getElem? (i := 43) rfl)) (own_wS hw) rfl (own_EW hw) (g := (mkF m 15 #[.val (.ref a1), .val (.long q1), .second, .val (.int hI), .val (.int cI), .val (.ref r)] [(.ref r)])) rfl (hb hby own_d_prog_14_method_1_code_15) (n := 24) (by decide) (by decide) (by decide) (by decide)
  have Ex_10 := Ex_3.ext Ez9
  have F_11 := F_4.ext Ez9
  have F_12 := F_5.ext Ez9
  have F_13 := F_6.ext Ez9
  have F_14 := F_7.ext Ez9
  have K_15 : Keep h0 hz9 [a1] := K_8.ext Ez9
  have hZ := O9.z
  have hown := O9.o
  refine OGo.st st9 ?_
  show OGo p.tables e below _ (T9.setTop (mkF m 17 #[.val (.ref a1), .val (.long q1), .second, .val (.int hI), .val (.int cI), .val (.ref r)] [(.ref lit9), (.ref r)]))
  obtain ⟨_, _, ⟨T16, Lz16, kz16, nz16⟩, -, X16, ⟨Lc16, hQ16, lz16, yz16, zz16⟩, st16⟩ := Jvm.LawKit.callS X9 hx (y := (⟨"java/util/Objects", "requireNonNull", "(Ljava/lang/Object;Ljava/lang/String;)Ljava/lang/Object;"⟩ : MethodName)) hown (mvT hZ (hw _ (List.mem_of_getElem? (i := 44) rfl))) (mvT hZ (hw _ (List.mem_of_getElem? (i := 45) rfl))) (mvT hZ (hw _ (List.mem_of_getElem? (i := 46) rfl))) (mvT hZ (hw _ (List.mem_of_getElem? (i := 47) rfl))) (by decide) (backOf (W := 0) (rm4 l Z a0 hw [] r lit9 hz9 n0 (Nat.le_trans Z0 K_15.1) ) hZ (hw _ (List.mem_of_getElem? (i := 47) rfl)) (hw _ (List.mem_of_getElem? (i := 46) rfl)) (by decide) (by decide)) (g := (mkF m 17 #[.val (.ref a1), .val (.long q1), .second, .val (.int hI), .val (.int cI), .val (.ref r)] [(.ref lit9), (.ref r)])) rfl (by rw [hml]; rfl) (argsL := [(.ref r), (.ref lit9)]) (rest := []) (lenOf own_pd4 rfl) rfl (by show 2 * 0 + _ ≤ _; exact Nat.le_of_eq rfl) (hb hby own_d_prog_14_method_1_code_17) (fun _ _ => ⟨rfl, ez9, (by decide : 8 + 0 ≤ _), (by decide : 144 + 0 ≤ _)⟩)
  dsimp only [Pt.U, Pt.locs, Pt.cells, Pt.slots] at X16 lz16 yz16 zz16 st16 hQ16
  subst lz16 yz16 zz16
  obtain ⟨rfl, Nq16, ez16⟩ := hQ16
  have N16 := Fr.app N2 Nq16
  refine OGo.st st16 ?_
  show OGo p.tables e below _ (T16.setTop (mkF m 20 #[.val (.ref a1), .val (.long q1), .second, .val (.int hI), .val (.int cI), .val (.ref r)] [(.ref r)]))
  refine OGo.st (fun _ k_ => XS.pop X16.here hx rfl (hb hby own_d_prog_14_method_1_code_20) rfl rfl k_) ?_
  show OGo p.tables e below _ (T16.setTop (mkF m 21 #[.val (.ref a1), .val (.long q1), .second, .val (.int hI), .val (.int cI), .val (.ref r)] []))
  refine OGo.st (fun _ k_ => XS.aloadN X16.here hx rfl (hb hby own_d_prog_14_method_1_code_21) rfl rfl k_) ?_
  show OGo p.tables e below _ (T16.setTop (mkF m 22 #[.val (.ref a1), .val (.long q1), .second, .val (.int hI), .val (.int cI), .val (.ref r)] [(.ref a1)]))
  refine OGo.st (fun _ k_ => XS.lloadN X16.here hx rfl (hb hby own_d_prog_14_method_1_code_22) rfl k_) ?_
  show OGo p.tables e below _ (T16.setTop (mkF m 23 #[.val (.ref a1), .val (.long q1), .second, .val (.int hI), .val (.int cI), .val (.ref r)] [(.long q1), (.ref a1)]))
  obtain ⟨T17, hz17, X17, ez17, W17, st17⟩ := putF X16 hx hZ hown (host := "") (Or.inl (hw _ (List.mem_of_getElem? (i := 48) rfl))) Via.refl ez16 F_11 Ex_10 (Or.inr ⟨(hw _ (List.mem_of_getElem? (i := 49) rfl)), rfl, hnm⟩) (hw _ (List.mem_of_getElem? (i := 6) rfl)) (ty := .long) (by decide) rfl rfl (g := (mkF m 23 #[.val (.ref a1), .val (.long q1), .second, .val (.int hI), .val (.int cI), .val (.ref r)] [(.long q1), (.ref a1)])) rfl rfl (hb hby own_d_prog_14_method_1_code_23)
  have Fw17 : Fld Z hz17 a1 "com/example/crivo/crivo/CountingParameters" "counters" "J" (.long q1) := F_11.same W17
  have Ex_18 := Ex_10.wr W17
  have F_19 := F_12.other W17 (Or.inr (slot_ne (Or.inr (hw _ (List.mem_of_getElem? (i := 51) rfl))) (Or.inr (hw _ (List.mem_of_getElem? (i := 49) rfl))) (by decide) (t := .int) (t' := .long) (by decide) (by decide)))
  have F_20 := F_13.other W17 (Or.inr (slot_ne (Or.inr (hw _ (List.mem_of_getElem? (i := 53) rfl))) (Or.inr (hw _ (List.mem_of_getElem? (i := 49) rfl))) (by decide) (t := .int) (t' := .long) (by decide) (by decide)))
  have F_21 := F_14.other W17 (Or.inr (slot_ne (Or.inr (hw _ (List.mem_of_getElem? (i := 55) rfl))) (Or.inr (hw _ (List.mem_of_getElem? (i := 49) rfl))) (by decide) (t := (.object "com/example/crivo/crivo/UpdateRule")) (t' := .long) (by decide) (by decide)))
  have O22 := O9.wr W17 own_sf
  have N17 := Fr.snoc X17 N16 g_a1
  have K_23 : Keep h0 hz17 [a1] := K_15.wr W17 (Or.inl (List.mem_of_getElem? (i := 0) rfl))
  refine OGo.st st17 ?_
  show OGo p.tables e below _ (T17.setTop (mkF m 26 #[.val (.ref a1), .val (.long q1), .second, .val (.int hI), .val (.int cI), .val (.ref r)] []))
  refine OGo.st (fun _ k_ => XS.aloadN X17.here hx rfl (hb hby own_d_prog_14_method_1_code_26) rfl rfl k_) ?_
  show OGo p.tables e below _ (T17.setTop (mkF m 27 #[.val (.ref a1), .val (.long q1), .second, .val (.int hI), .val (.int cI), .val (.ref r)] [(.ref a1)]))
  refine OGo.st (fun _ k_ => XS.iloadN X17.here hx rfl (hb hby own_d_prog_14_method_1_code_27) rfl k_) ?_
  show OGo p.tables e below _ (T17.setTop (mkF m 28 #[.val (.ref a1), .val (.long q1), .second, .val (.int hI), .val (.int cI), .val (.ref r)] [(.int hI), (.ref a1)]))
  obtain ⟨T24, hz24, X24, ez24, W24, st24⟩ := putF X17 hx hZ hown (host := "") (Or.inl (hw _ (List.mem_of_getElem? (i := 50) rfl))) Via.refl ez17 F_19 Ex_18 (Or.inr ⟨(hw _ (List.mem_of_getElem? (i := 51) rfl)), rfl, hnm⟩) (hw _ (List.mem_of_getElem? (i := 6) rfl)) (ty := .int) (by decide) rfl rfl (g := (mkF m 28 #[.val (.ref a1), .val (.long q1), .second, .val (.int hI), .val (.int cI), .val (.ref r)] [(.int hI), (.ref a1)])) rfl rfl (hb hby own_d_prog_14_method_1_code_28)
  have Fw24 : Fld Z hz24 a1 "com/example/crivo/crivo/CountingParameters" "hashes" "I" (.int hI) := F_19.same W24
  have Ex_25 := Ex_18.wr W24
  have F_26 := F_20.other W24 (Or.inr (slot_ne (Or.inr (hw _ (List.mem_of_getElem? (i := 53) rfl))) (Or.inr (hw _ (List.mem_of_getElem? (i := 51) rfl))) (by decide) (t := .int) (t' := .int) (by decide) (by decide)))
  have F_27 := F_21.other W24 (Or.inr (slot_ne (Or.inr (hw _ (List.mem_of_getElem? (i := 55) rfl))) (Or.inr (hw _ (List.mem_of_getElem? (i := 51) rfl))) (by decide) (t := (.object "com/example/crivo/crivo/UpdateRule")) (t' := .int) (by decide) (by decide)))
  have F_28 := Fw17.other W24 (Or.inr (slot_ne (Or.inr (hw _ (List.mem_of_getElem? (i := 49) rfl))) (Or.inr (hw _ (List.mem_of_getElem? (i := 51) rfl))) (by decide) (t := .long) (t' := .int) (by decide) (by decide)))
  have O29 := O22.wr W24 own_sf
  have N24 := Fr.snoc X24 N17 g_a1
  have K_30 : Keep h0 hz24 [a1] := K_23.wr W24 (Or.inl (List.mem_of_getElem? (i := 0) rfl))
  refine OGo.st st24 ?_
  show OGo p.tables e below _ (T24.setTop (mkF m 31 #[.val (.ref a1), .val (.long q1), .second, .val (.int hI), .val (.int cI), .val (.ref r)] []))
  refine OGo.st (fun _ k_ => XS.aloadN X24.here hx rfl (hb hby own_d_prog_14_method_1_code_31) rfl rfl k_) ?_
  show OGo p.tables e below _ (T24.setTop (mkF m 32 #[.val (.ref a1), .val (.long q1), .second, .val (.int hI), .val (.int cI), .val (.ref r)] [(.ref a1)]))
  refine OGo.st (fun _ k_ => XS.iload X24.here hx rfl (hb hby own_d_prog_14_method_1_code_32) rfl k_) ?_
  show OGo p.tables e below _ (T24.setTop (mkF m 34 #[.val (.ref a1), .val (.long q1), .second, .val (.int hI), .val (.int cI), .val (.ref r)] [(.int cI), (.ref a1)]))
  obtain ⟨T31, hz31, X31, ez31, W31, st31⟩ := putF X24 hx hZ hown (host := "") (Or.inl (hw _ (List.mem_of_getElem? (i := 52) rfl))) Via.refl ez24 F_26 Ex_25 (Or.inr ⟨(hw _ (List.mem_of_getElem? (i := 53) rfl)), rfl, hnm⟩) (hw _ (List.mem_of_getElem? (i := 6) rfl)) (ty := .int) (by decide) rfl rfl (g := (mkF m 34 #[.val (.ref a1), .val (.long q1), .second, .val (.int hI), .val (.int cI), .val (.ref r)] [(.int cI), (.ref a1)])) rfl rfl (hb hby own_d_prog_14_method_1_code_34)
  have Fw31 : Fld Z hz31 a1 "com/example/crivo/crivo/CountingParameters" "counterBits" "I" (.int cI) := F_26.same W31
  have Ex_32 := Ex_25.wr W31
  have F_33 := F_27.other W31 (Or.inr (slot_ne (Or.inr (hw _ (List.mem_of_getElem? (i := 55) rfl))) (Or.inr (hw _ (List.mem_of_getElem? (i := 53) rfl))) (by decide) (t := (.object "com/example/crivo/crivo/UpdateRule")) (t' := .int) (by decide) (by decide)))
  have F_34 := F_28.other W31 (Or.inr (slot_ne (Or.inr (hw _ (List.mem_of_getElem? (i := 49) rfl))) (Or.inr (hw _ (List.mem_of_getElem? (i := 53) rfl))) (by decide) (t := .long) (t' := .int) (by decide) (by decide)))
  have F_35 := Fw24.other W31 (Or.inr (slot_ne (Or.inr (hw _ (List.mem_of_getElem? (i := 51) rfl))) (Or.inr (hw _ (List.mem_of_getElem? (i := 53) rfl))) (by decide) (t := .int) (t' := .int) (by decide) (by decide)))
  have O36 := O29.wr W31 own_sf
  have N31 := Fr.snoc X31 N24 g_a1
  have K_37 : Keep h0 hz31 [a1] := K_30.wr W31 (Or.inl (List.mem_of_getElem? (i := 0) rfl))
  refine OGo.st st31 ?_
  show OGo p.tables e below _ (T31.setTop (mkF m 37 #[.val (.ref a1), .val (.long q1), .second, .val (.int hI), .val (.int cI), .val (.ref r)] []))
  refine OGo.st (fun _ k_ => XS.aloadN X31.here hx rfl (hb hby own_d_prog_14_method_1_code_37) rfl rfl k_) ?_
  show OGo p.tables e below _ (T31.setTop (mkF m 38 #[.val (.ref a1), .val (.long q1), .second, .val (.int hI), .val (.int cI), .val (.ref r)] [(.ref a1)]))
  refine OGo.st (fun _ k_ => XS.aload X31.here hx rfl (hb hby own_d_prog_14_method_1_code_38) rfl rfl k_) ?_
  show OGo p.tables e below _ (T31.setTop (mkF m 40 #[.val (.ref a1), .val (.long q1), .second, .val (.int hI), .val (.int cI), .val (.ref r)] [(.ref r), (.ref a1)]))
  obtain ⟨T38, hz38, X38, ez38, W38, st38⟩ := putF X31 hx hZ hown (host := "") (Or.inl (hw _ (List.mem_of_getElem? (i := 54) rfl))) Via.refl ez31 F_33 Ex_32 (Or.inr ⟨(hw _ (List.mem_of_getElem? (i := 55) rfl)), rfl, hnm⟩) (hw _ (List.mem_of_getElem? (i := 6) rfl)) (ty := (.object "com/example/crivo/crivo/UpdateRule")) (by decide) rfl rfl (g := (mkF m 40 #[.val (.ref a1), .val (.long q1), .second, .val (.int hI), .val (.int cI), .val (.ref r)] [(.ref r), (.ref a1)])) rfl rfl (hb hby own_d_prog_14_method_1_code_40)
  have Fw38 : Fld Z hz38 a1 "com/example/crivo/crivo/CountingParameters" "update" "Lcom/example/crivo/crivo/UpdateRule;" (.ref r) := F_33.same W38
  have Ex_39 := Ex_32.wr W38
  have F_40 := F_34.other W38 (Or.inr (slot_ne (Or.inr (hw _ (List.mem_of_getElem? (i := 49) rfl))) (Or.inr (hw _ (List.mem_of_getElem? (i := 55) rfl))) (by decide) (t := .long) (t' := (.object "com/example/crivo/crivo/UpdateRule")) (by decide) (by decide)))
  have F_41 := F_35.other W38 (Or.inr (slot_ne (Or.inr (hw _ (List.mem_of_getElem? (i := 51) rfl))) (Or.inr (hw _ (List.mem_of_getElem? (i := 55) rfl))) (by decide) (t := .int) (t' := (.object "com/example/crivo/crivo/UpdateRule")) (by decide) (by decide)))
  have F_42 := Fw31.other W38 (Or.inr (slot_ne (Or.inr (hw _ (List.mem_of_getElem? (i := 53) rfl))) (Or.inr (hw _ (List.mem_of_getElem? (i := 55) rfl))) (by decide) (t := .int) (t' := (.object "com/example/crivo/crivo/UpdateRule")) (by decide) (by decide)))
  have O43 := O36.wr W38 own_sf
  have N38 := Fr.snoc X38 N31 g_a1
  have K_44 : Keep h0 hz38 [a1] := K_37.wr W38 (Or.inl (List.mem_of_getElem? (i := 0) rfl))
  refine OGo.st st38 ?_
  show OGo p.tables e below _ (T38.setTop (mkF m 43 #[.val (.ref a1), .val (.long q1), .second, .val (.int hI), .val (.int cI), .val (.ref r)] []))
  refine OGo.finS X38 ez38 O43 (own_EW hw) hh (v := none) (fun _ => rfl) hlk (fun fs hr => X38.returnOut hx Bd.returns (hb hby own_d_prog_14_method_1_code_43) hr) ?_ (by decide) (by decide)
  show own_Q_rm6 Z a1 q1 hI cI r h0 n0 _ T38.heap _
  rw [ez38]
  exact ⟨rfl, N38, K_44, F_40, F_41, F_42, Fw38⟩
theorem own_d_prog_52_method_6_code_0 : decode prog_52_method_6_code 0 = .ok (.aload_n 2, 1) := by decide +kernel
theorem own_d_prog_52_method_6_code_1 : decode prog_52_method_6_code 1 = .ok (.getfield 33, 3) := by decide +kernel
theorem own_d_prog_52_method_6_code_4 : decode prog_52_method_6_code 4 = .ok (.i2l, 1) := by decide +kernel
theorem own_d_prog_52_method_6_code_5 : decode prog_52_method_6_code 5 = .ok (.lload_n 0, 1) := by decide +kernel
theorem own_d_prog_52_method_6_code_6 : decode prog_52_method_6_code 6 = .ok (.lcmp, 1) := by decide +kernel
theorem own_d_prog_52_method_6_code_7 : decode prog_52_method_6_code 7 = .ok (.ifCond .ne 7, 3) := by decide +kernel
theorem own_d_prog_52_method_6_code_10 : decode prog_52_method_6_code 10 = .ok (.iconst 1, 1) := by decide +kernel
theorem own_d_prog_52_method_6_code_11 : decode prog_52_method_6_code 11 = .ok (.goto 4, 3) := by decide +kernel
theorem own_d_prog_52_method_6_code_15 : decode prog_52_method_6_code 15 = .ok (.ireturn, 1) := by decide +kernel
theorem own_d_prog_52_method_6_code_14 : decode prog_52_method_6_code 14 = .ok (.iconst 0, 1) := by decide +kernel
theorem own_pn4 : plainName "com/example/crivo/crivo/UpdateRule" = true := by first | (simp [plainName, overriddenIn]; done) | decide +kernel
theorem own_ef_rm8 (m : MethodId) (x0 : Int64) (x1 : Addr) : entryFrame m #[(.long x0), (.ref x1)] 3 = mkF m 0 #[.val (.long x0), .second, .val (.ref x1)] [] := by first | (simp [entryFrame, mkF, argsToLocals, Value.category]; done) | rfl
def own_Q_rm8 (Z : State) (vv : Int64) (r : Addr) (cd : Int32) (h0 : Heap) (n0 : Nat) (v : Option Value) (h : Heap) (L : List Loc) : Prop := v = some (.int (own_t cd vv)) ∧ Fr n0 L ∧ h = h0
set_option maxRecDepth 65536 in
set_option maxHeartbeats 40000000 in
theorem rm8 (l : Launch) (Z : State) (a0 : Array Value) (hw : ∀ d ∈ tables_1, d.before a0 Z = true) (ws : List Jvm.Cond) (vv : Int64) (r : Addr) (cd : Int32) (h0 : Heap) (n0 : Nat) (Z0 : n0 ≤ h0.size) (F_code_r : Fld Z h0 r "com/example/crivo/crivo/UpdateRule" "code" "I" (.int cd)) :
    OMet l Z (⟨"com/example/crivo/crivo/UpdateRule", "lambda$withCode$1", "(JLcom/example/crivo/crivo/UpdateRule;)Z"⟩ : MethodName) prog_52_method_6_code 3 (some .boolean) ws ({ frames := 0, cells := 0, slots := 0, locals := 0 } : Room) #[(.long vv), (.ref r)] h0 (own_Q_rm8 Z vv r cd h0 n0) := by
  refine MetFree.of_bodySF (plainFor_of_name own_pn4) hisR ?_
  intro p e s m args below meth c s₁ Bd hml0 hP hK
  obtain ⟨rfl, hZ, hh⟩ := hP
  have hx := Bd.exec
  have hby := Bd.bytes
  have hml : c.maxLocals = 3 := hml0
  have hown : s.vm.findClass "com/example/crivo/crivo/UpdateRule" = some m.cls := findClass_of_methodNamed Bd.named
  have hnm := (name_of_methodNamed Bd.named Bd.method).1
  have hlk : meth.locks = false := Bd.notSynchronized
  have X0 : Stand p l e ({ frames := 0, cells := 0, slots := 0, locals := 0 } : Room) s m #[(.long vv), (.ref r)] below meth c s₁ [] 0 0 := Stand.of_body Bd
  have e0 : s₁.heap = h0 := by rw [← hh, Bd.state]; rfl
  have N0 := Fr.nil n0
  refine OGo.enter (P := OPost s (own_Q_rm8 Z vv r cd h0 n0) 0 0) (own_ef_rm8 m vv r) ?_
  show OGo p.tables e below _ (s₁.setTop (mkF m 0 #[.val (.long vv), .second, .val (.ref r)] []))
  refine OGo.st (fun _ k_ => XS.aloadN X0.here hx rfl (hb hby own_d_prog_52_method_6_code_0) rfl rfl k_) ?_
  show OGo p.tables e below _ (s₁.setTop (mkF m 1 #[.val (.long vv), .second, .val (.ref r)] [(.ref r)]))
  obtain ⟨T1, X1, ez1, st1⟩ := getF X0 hx hZ hown (host := "") (Or.inl (hw _ (List.mem_of_getElem? (i := 99) rfl))) Via.refl e0 F_code_r (g := (mkF m 1 #[.val (.long vv), .second, .val (.ref r)] [(.ref r)])) rfl rfl (hb hby own_d_prog_52_method_6_code_1)
  refine OGo.st st1 ?_
  show OGo p.tables e below _ (T1.setTop (mkF m 4 #[.val (.long vv), .second, .val (.ref r)] [(.int cd)]))
  refine OGo.st (fun _ k_ => XS.i2l X1.here hx rfl (hb hby own_d_prog_52_method_6_code_4) rfl k_) ?_
  show OGo p.tables e below _ (T1.setTop (mkF m 5 #[.val (.long vv), .second, .val (.ref r)] [(.long cd.toInt64)]))
  refine OGo.st (fun _ k_ => XS.lloadN X1.here hx rfl (hb hby own_d_prog_52_method_6_code_5) rfl k_) ?_
  show OGo p.tables e below _ (T1.setTop (mkF m 6 #[.val (.long vv), .second, .val (.ref r)] [(.long vv), (.long cd.toInt64)]))
  by_cases hc6 : cd.toInt64 = vv
  · refine OGo.st (fun _ k_ => XT.lcmp X1.here hx rfl (hb hby own_d_prog_52_method_6_code_6) rfl k_) ?_
    show OGo p.tables e below _ (T1.setTop (mkF m 7 #[.val (.long vv), .second, .val (.ref r)] [(.int (XT.cmpL cd.toInt64 vv))]))
    refine OGo.st (fun _ k_ => XS.ifNo X1.here hx rfl (hb hby own_d_prog_52_method_6_code_7) rfl (XT.ll_ne_f hc6) k_) ?_
    show OGo p.tables e below _ (T1.setTop (mkF m 10 #[.val (.long vv), .second, .val (.ref r)] []))
    refine OGo.st (fun _ k_ => XS.iconst X1.here hx rfl (hb hby own_d_prog_52_method_6_code_10) k_) ?_
    show OGo p.tables e below _ (T1.setTop (mkF m 11 #[.val (.long vv), .second, .val (.ref r)] [(.int (1 : Int32))]))
    refine OGo.st (fun _ k_ => XS.goto X1.here hx rfl (pc0 := 11) (pc' := 15) rfl (hb hby own_d_prog_52_method_6_code_11) (by decide) (by decide) k_) ?_
    show OGo p.tables e below _ (T1.setTop (mkF m 15 #[.val (.long vv), .second, .val (.ref r)] [(.int (1 : Int32))]))
    refine OGo.fin X1 (v := some (.int (1 : Int32))) (fun h => by rw [Bd.returns] at h; cases h) hlk (fun fs hr => X1.ireturnOut hx Bd.returns rfl (by simp) (hb hby own_d_prog_52_method_6_code_15) hr) ?_ (by decide) (by decide)
    show own_Q_rm8 Z vv r cd h0 n0 _ T1.heap _
    rw [ez1]
    exact ⟨congrArg (fun z => some (Value.int z)) (by unfold own_t; rw [if_pos hc6]), N0, rfl⟩
  · refine OGo.st (fun _ k_ => XT.lcmp X1.here hx rfl (hb hby own_d_prog_52_method_6_code_6) rfl k_) ?_
    show OGo p.tables e below _ (T1.setTop (mkF m 7 #[.val (.long vv), .second, .val (.ref r)] [(.int (XT.cmpL cd.toInt64 vv))]))
    refine OGo.st (fun _ k_ => XS.ifYes X1.here hx rfl (pc0 := 7) (pc' := 14) rfl (hb hby own_d_prog_52_method_6_code_7) rfl (XT.ll_ne_t hc6) (by decide) (by decide) k_) ?_
    show OGo p.tables e below _ (T1.setTop (mkF m 14 #[.val (.long vv), .second, .val (.ref r)] []))
    refine OGo.st (fun _ k_ => XS.iconst X1.here hx rfl (hb hby own_d_prog_52_method_6_code_14) k_) ?_
    show OGo p.tables e below _ (T1.setTop (mkF m 15 #[.val (.long vv), .second, .val (.ref r)] [(.int (0 : Int32))]))
    refine OGo.fin X1 (v := some (.int (0 : Int32))) (fun h => by rw [Bd.returns] at h; cases h) hlk (fun fs hr => X1.ireturnOut hx Bd.returns rfl (by simp) (hb hby own_d_prog_52_method_6_code_15) hr) ?_ (by decide) (by decide)
    show own_Q_rm8 Z vv r cd h0 n0 _ T1.heap _
    rw [ez1]
    exact ⟨congrArg (fun z => some (Value.int z)) (by unfold own_t; rw [if_neg hc6]), N0, rfl⟩
theorem own_d_prog_52_method_1_code_0 : decode prog_52_method_1_code 0 = .ok (.getstatic 10, 3) := by decide +kernel
theorem own_d_prog_52_method_1_code_3 : decode prog_52_method_1_code 3 = .ok (.invokevirtual 14, 3) := by decide +kernel
theorem own_d_prog_52_method_1_code_6 : decode prog_52_method_1_code 6 = .ok (.checkcast 15, 3) := by decide +kernel
theorem own_d_prog_52_method_1_code_9 : decode prog_52_method_1_code 9 = .ok (.areturn, 1) := by decide +kernel
theorem own_ef_rm9 (m : MethodId)  : entryFrame m #[] 0 = mkF m 0 #[] [] := by first | (simp [entryFrame, mkF, argsToLocals, Value.category]; done) | rfl
def own_Q_rm9 (Z : State) (va : Addr) (k : ClassId) (pa ca : Addr) (h0 : Heap) (n0 : Nat) (v : Option Value) (h : Heap) (L : List Loc) : Prop := ∃ (y : Addr), v = some (.ref y) ∧ Fr n0 L ∧ Keep h0 h [] ∧ n0 ≤ y ∧ h0.size ≤ y ∧ Arf Z h y k (.object "com/example/crivo/crivo/UpdateRule") 2 (own_P pa ca)
set_option maxRecDepth 65536 in
set_option maxHeartbeats 40000000 in
theorem rm9 (l : Launch) (Z : State) (a0 : Array Value) (hw : ∀ d ∈ tables_1, d.before a0 Z = true) (ws : List Jvm.Cond) (va : Addr) (k : ClassId) (pa ca : Addr) (h0 : Heap) (n0 : Nat) (Z0 : n0 ≤ h0.size) (S_va : Sta Z h0 "com/example/crivo/crivo/UpdateRule" "$VALUES" "[Lcom/example/crivo/crivo/UpdateRule;" (.ref va)) (E_va : Exa Z h0 va "[Lcom/example/crivo/crivo/UpdateRule;") (A_va : Arf Z h0 va k (.object "com/example/crivo/crivo/UpdateRule") 2 (own_P pa ca)) :
    OMet l Z (⟨"com/example/crivo/crivo/UpdateRule", "values", "()[Lcom/example/crivo/crivo/UpdateRule;"⟩ : MethodName) prog_52_method_1_code 0 (some (.array (.object "com/example/crivo/crivo/UpdateRule"))) ws ({ frames := 1, cells := 1, slots := 2, locals := 14 } : Room) #[] h0 (own_Q_rm9 Z va k pa ca h0 n0) := by
  refine MetFree.of_bodySF (plainFor_of_name own_pn4) hisR ?_
  intro p e s m args below meth c s₁ Bd hml0 hP hK
  obtain ⟨rfl, hZ, hh⟩ := hP
  have hx := Bd.exec
  have hby := Bd.bytes
  have hml : c.maxLocals = 0 := hml0
  have hown : s.vm.findClass "com/example/crivo/crivo/UpdateRule" = some m.cls := findClass_of_methodNamed Bd.named
  have hnm := (name_of_methodNamed Bd.named Bd.method).1
  have hlk : meth.locks = false := Bd.notSynchronized
  have X0 : Stand p l e ({ frames := 1, cells := 1, slots := 2, locals := 14 } : Room) s m #[] below meth c s₁ [] 0 0 := Stand.of_body Bd
  have e0 : s₁.heap = h0 := by rw [← hh, Bd.state]; rfl
  have N0 := Fr.nil n0
  refine OGo.enter (P := OPost s (own_Q_rm9 Z va k pa ca h0 n0) 1 2) (own_ef_rm9 m ) ?_
  show OGo p.tables e below _ (s₁.setTop (mkF m 0 #[] []))
  obtain ⟨T1, X1, ez1, st1⟩ := getS X0 hx hZ hown (host := "") (hw _ (List.mem_of_getElem? (i := 73) rfl)) Via.refl e0 S_va (g := (mkF m 0 #[] [])) rfl (hb hby own_d_prog_52_method_1_code_0)
  refine OGo.st st1 ?_
  show OGo p.tables e below _ (T1.setTop (mkF m 3 #[] [(.ref va)]))
  obtain ⟨T2, hz2, X2, ez2, Ez2, Az2, Qz2, st2⟩ := own_clone X1 hx hZ hown (hw _ (List.mem_of_getElem? (i := 75) rfl)) (hw _ (List.mem_of_getElem? (i := 76) rfl)) (hw _ (List.mem_of_getElem? (i := 80) rfl)) (hw _ (List.mem_of_getElem? (i := 78) rfl)) (hw _ (List.mem_of_getElem? (i := 79) rfl)) (hw _ (List.mem_of_getElem? (i := 81) rfl)) ez1 A_va E_va (g := (mkF m 3 #[] [(.ref va)])) rfl (by rw [hml]; rfl) rfl (hb hby own_d_prog_52_method_1_code_3) (by decide) (W := 0) (cap := 2) (by show 2 * 0 + _ ≤ _; exact Nat.le_of_eq rfl) (by decide) (by decide) (by decide) (by decide)
  obtain ⟨bz2, g2⟩ : ∃ z, z = h0.size := ⟨_, rfl⟩
  rw [← g2] at Az2 Qz2 st2
  have lt_va_bz2 : @LT.lt Nat instLTNat va bz2 := Nat.lt_of_lt_of_le E_va.lt (Nat.le_of_eq g2.symm)
  have g_bz2 : n0 ≤ bz2 := Nat.le_trans (Nat.le_trans Z0 (Keep.refl h0 []).1) (Nat.le_of_eq g2.symm)
  have sz_bz2 : h0.size ≤ bz2 := Nat.le_trans (Keep.refl h0 []).1 (Nat.le_of_eq g2.symm)
  have Ex_3 := E_va.ext Ez2
  have Af_4 := A_va.ext Ez2
  have K_5 : Keep h0 hz2 [] := (Keep.refl h0 []).ext Ez2
  refine OGo.st st2 ?_
  show OGo p.tables e below _ (T2.setTop (mkF m 6 #[] [(.ref bz2)]))
  obtain ⟨T6, X6, ez6, st6⟩ := castY X2 hx hZ hown (hw _ (List.mem_of_getElem? (i := 84) rfl)) ez2 (Ins.of_exa Qz2 (hw _ (List.mem_of_getElem? (i := 85) rfl))) (g := (mkF m 6 #[] [(.ref bz2)])) rfl rfl (hb hby own_d_prog_52_method_1_code_6)
  refine OGo.st st6 ?_
  show OGo p.tables e below _ (T6.setTop (mkF m 9 #[] [(.ref bz2)]))
  refine OGo.fin X6 (v := some (.ref bz2)) (fun h => by rw [Bd.returns] at h; cases h) hlk (fun fs hr => X6.areturnOut hx rfl Bd.returns rfl (hb hby own_d_prog_52_method_1_code_9) hr) ?_ (by decide) (by decide)
  show own_Q_rm9 Z va k pa ca h0 n0 _ T6.heap _
  rw [ez6]
  exact ⟨_, rfl, N0, K_5, g_bz2, sz_bz2, Az2⟩
theorem own_d_prog_36_method_2_code_0 : decode prog_36_method_2_code 0 = .ok (.aload_n 0, 1) := by decide +kernel
theorem own_d_prog_36_method_2_code_1 : decode prog_36_method_2_code 1 = .ok (.astore_n 2, 1) := by decide +kernel
theorem own_d_prog_36_method_2_code_2 : decode prog_36_method_2_code 2 = .ok (.aload_n 2, 1) := by decide +kernel
theorem own_d_prog_36_method_2_code_3 : decode prog_36_method_2_code 3 = .ok (.arraylength, 1) := by decide +kernel
theorem own_d_prog_36_method_2_code_4 : decode prog_36_method_2_code 4 = .ok (.istore_n 3, 1) := by decide +kernel
theorem own_d_prog_36_method_2_code_5 : decode prog_36_method_2_code 5 = .ok (.iconst 0, 1) := by decide +kernel
theorem own_d_prog_36_method_2_code_6 : decode prog_36_method_2_code 6 = .ok (.istore 4, 2) := by decide +kernel
theorem own_d_prog_36_method_2_code_8 : decode prog_36_method_2_code 8 = .ok (.iload 4, 2) := by decide +kernel
theorem own_d_prog_36_method_2_code_10 : decode prog_36_method_2_code 10 = .ok (.iload_n 3, 1) := by decide +kernel
theorem own_d_prog_36_method_2_code_11 : decode prog_36_method_2_code 11 = .ok (.if_icmp .ge 29, 3) := by decide +kernel
theorem own_d_prog_36_method_2_code_14 : decode prog_36_method_2_code 14 = .ok (.aload_n 2, 1) := by decide +kernel
theorem own_d_prog_36_method_2_code_15 : decode prog_36_method_2_code 15 = .ok (.iload 4, 2) := by decide +kernel
theorem own_d_prog_36_method_2_code_17 : decode prog_36_method_2_code 17 = .ok (.aaload, 1) := by decide +kernel
theorem own_d_prog_36_method_2_code_18 : decode prog_36_method_2_code 18 = .ok (.astore 5, 2) := by decide +kernel
theorem own_d_prog_36_method_2_code_20 : decode prog_36_method_2_code 20 = .ok (.aload_n 1, 1) := by decide +kernel
theorem own_d_prog_36_method_2_code_21 : decode prog_36_method_2_code 21 = .ok (.aload 5, 2) := by decide +kernel
theorem own_d_prog_36_method_2_code_23 : decode prog_36_method_2_code 23 = .ok (.invokeinterface 7 2, 5) := by decide +kernel
theorem own_d_prog_36_method_2_code_28 : decode prog_36_method_2_code 28 = .ok (.ifCond .eq 6, 3) := by decide +kernel
theorem own_d_prog_36_method_2_code_34 : decode prog_36_method_2_code 34 = .ok (.iinc 4 1, 3) := by decide +kernel
theorem own_d_prog_36_method_2_code_37 : decode prog_36_method_2_code 37 = .ok (.goto (-29), 3) := by decide +kernel
theorem own_d_prog_36_method_2_code_40 : decode prog_36_method_2_code 40 = .ok (.aconst_null, 1) := by decide +kernel
theorem own_d_prog_36_method_2_code_41 : decode prog_36_method_2_code 41 = .ok (.areturn, 1) := by decide +kernel
theorem own_d_prog_36_method_2_code_31 : decode prog_36_method_2_code 31 = .ok (.aload 5, 2) := by decide +kernel
theorem own_d_prog_36_method_2_code_33 : decode prog_36_method_2_code 33 = .ok (.areturn, 1) := by decide +kernel
theorem own_pn5 : plainName "com/example/crivo/crivo/Lookup" = true := by first | (simp [plainName, overriddenIn]; done) | decide +kernel
theorem own_ef_rm10 (m : MethodId) (x0 : Addr) (x1 : Addr) : entryFrame m #[(.ref x0), (.ref x1)] 6 = mkF m 0 #[.val (.ref x0), .val (.ref x1), .unset, .unset, .unset, .unset] [] := by first | (simp [entryFrame, mkF, argsToLocals, Value.category]; done) | rfl
def own_Q_rm10 (Z : State) (ar fn : Addr) (k cK : ClassId) (pa ca : Addr) (vv : Int64) (h0 : Heap) (n0 : Nat) (v : Option Value) (h : Heap) (L : List Loc) : Prop := v = some (own_ft vv pa ca) ∧ Fr n0 L ∧ h = h0
set_option maxRecDepth 65536 in
set_option maxHeartbeats 40000000 in
theorem rm10 (l : Launch) (Z : State) (a0 : Array Value) (hw : ∀ d ∈ tables_1, d.before a0 Z = true) (ws : List Jvm.Cond) (ar fn : Addr) (k cK : ClassId) (pa ca : Addr) (vv : Int64) (h0 : Heap) (n0 : Nat) (Z0 : n0 ≤ h0.size) (md : LamKit.Made Z "com/example/crivo/crivo/UpdateRule" own_sg cK) (Fn : own_Fn h0 fn cK vv) (A_ar : Arf Z h0 ar k (.object "com/example/crivo/crivo/UpdateRule") 2 (own_P pa ca)) (E_pa : Exa Z h0 pa "com/example/crivo/crivo/UpdateRule") (F_code_pa : Fld Z h0 pa "com/example/crivo/crivo/UpdateRule" "code" "I" (.int (1 : Int32))) (E_ca : Exa Z h0 ca "com/example/crivo/crivo/UpdateRule") (F_code_ca : Fld Z h0 ca "com/example/crivo/crivo/UpdateRule" "code" "I" (.int (2 : Int32))) :
    OMet l Z (⟨"com/example/crivo/crivo/Lookup", "first", "([Ljava/lang/Object;Ljava/util/function/Predicate;)Ljava/lang/Object;"⟩ : MethodName) prog_36_method_2_code 6 (some (.object "java/lang/Object")) ws ({ frames := 2, cells := 0, slots := 0, locals := 27 } : Room) #[(.ref ar), (.ref fn)] h0 (own_Q_rm10 Z ar fn k cK pa ca vv h0 n0) := by
  refine MetFree.of_bodySF (plainFor_of_name own_pn5) hisR ?_
  intro p e s m args below meth c s₁ Bd hml0 hP hK
  obtain ⟨rfl, hZ, hh⟩ := hP
  have hx := Bd.exec
  have hby := Bd.bytes
  have hml : c.maxLocals = 6 := hml0
  have hown : s.vm.findClass "com/example/crivo/crivo/Lookup" = some m.cls := findClass_of_methodNamed Bd.named
  have hnm := (name_of_methodNamed Bd.named Bd.method).1
  have hlk : meth.locks = false := Bd.notSynchronized
  have X0 : Stand p l e ({ frames := 2, cells := 0, slots := 0, locals := 27 } : Room) s m #[(.ref ar), (.ref fn)] below meth c s₁ [] 0 0 := Stand.of_body Bd
  have e0 : s₁.heap = h0 := by rw [← hh, Bd.state]; rfl
  have N0 := Fr.nil n0
  refine OGo.enter (P := OPost s (own_Q_rm10 Z ar fn k cK pa ca vv h0 n0) 0 0) (own_ef_rm10 m ar fn) ?_
  show OGo p.tables e below _ (s₁.setTop (mkF m 0 #[.val (.ref ar), .val (.ref fn), .unset, .unset, .unset, .unset] []))
  refine OGo.st (fun _ k_ => XS.aloadN X0.here hx rfl (hb hby own_d_prog_36_method_2_code_0) rfl rfl k_) ?_
  show OGo p.tables e below _ (s₁.setTop (mkF m 1 #[.val (.ref ar), .val (.ref fn), .unset, .unset, .unset, .unset] [(.ref ar)]))
  refine OGo.st (fun _ k_ => XS.astoreN X0.here hx rfl (hb hby own_d_prog_36_method_2_code_1) rfl rfl (l' := #[.val (.ref ar), .val (.ref fn), .val (.ref ar), .unset, .unset, .unset]) rfl k_) ?_
  show OGo p.tables e below _ (s₁.setTop (mkF m 2 #[.val (.ref ar), .val (.ref fn), .val (.ref ar), .unset, .unset, .unset] []))
  refine OGo.st (fun _ k_ => XS.aloadN X0.here hx rfl (hb hby own_d_prog_36_method_2_code_2) rfl rfl k_) ?_
  show OGo p.tables e below _ (s₁.setTop (mkF m 3 #[.val (.ref ar), .val (.ref fn), .val (.ref ar), .unset, .unset, .unset] [(.ref ar)]))
  have qz1 := own_alen X0 hx hZ e0 A_ar (g := (mkF m 3 #[.val (.ref ar), .val (.ref fn), .val (.ref ar), .unset, .unset, .unset] [(.ref ar)])) rfl rfl (hb hby own_d_prog_36_method_2_code_3)
  refine OGo.st qz1 ?_
  show OGo p.tables e below _ (s₁.setTop (mkF m 4 #[.val (.ref ar), .val (.ref fn), .val (.ref ar), .unset, .unset, .unset] [(.int (2 : Int32))]))
  refine OGo.st (fun _ k_ => XS.istoreN X0.here hx rfl (hb hby own_d_prog_36_method_2_code_4) rfl (l' := #[.val (.ref ar), .val (.ref fn), .val (.ref ar), .val (.int (2 : Int32)), .unset, .unset]) rfl k_) ?_
  show OGo p.tables e below _ (s₁.setTop (mkF m 5 #[.val (.ref ar), .val (.ref fn), .val (.ref ar), .val (.int (2 : Int32)), .unset, .unset] []))
  refine OGo.st (fun _ k_ => XS.iconst X0.here hx rfl (hb hby own_d_prog_36_method_2_code_5) k_) ?_
  show OGo p.tables e below _ (s₁.setTop (mkF m 6 #[.val (.ref ar), .val (.ref fn), .val (.ref ar), .val (.int (2 : Int32)), .unset, .unset] [(.int (0 : Int32))]))
  refine OGo.st (fun _ k_ => XS.istore X0.here hx rfl (hb hby own_d_prog_36_method_2_code_6) rfl (l' := #[.val (.ref ar), .val (.ref fn), .val (.ref ar), .val (.int (2 : Int32)), .val (.int (0 : Int32)), .unset]) rfl k_) ?_
  show OGo p.tables e below _ (s₁.setTop (mkF m 8 #[.val (.ref ar), .val (.ref fn), .val (.ref ar), .val (.int (2 : Int32)), .val (.int (0 : Int32)), .unset] []))
  refine OGo.st (fun _ k_ => XS.iload X0.here hx rfl (hb hby own_d_prog_36_method_2_code_8) rfl k_) ?_
  show OGo p.tables e below _ (s₁.setTop (mkF m 10 #[.val (.ref ar), .val (.ref fn), .val (.ref ar), .val (.int (2 : Int32)), .val (.int (0 : Int32)), .unset] [(.int (0 : Int32))]))
  refine OGo.st (fun _ k_ => XS.iloadN X0.here hx rfl (hb hby own_d_prog_36_method_2_code_10) rfl k_) ?_
  show OGo p.tables e below _ (s₁.setTop (mkF m 11 #[.val (.ref ar), .val (.ref fn), .val (.ref ar), .val (.int (2 : Int32)), .val (.int (0 : Int32)), .unset] [(.int (2 : Int32)), (.int (0 : Int32))]))
  refine OGo.st (fun _ k_ => XS.icmpNo X0.here hx rfl (hb hby own_d_prog_36_method_2_code_11) rfl (XT.ii_ge_f (by decide)) k_) ?_
  show OGo p.tables e below _ (s₁.setTop (mkF m 14 #[.val (.ref ar), .val (.ref fn), .val (.ref ar), .val (.int (2 : Int32)), .val (.int (0 : Int32)), .unset] []))
  refine OGo.st (fun _ k_ => XS.aloadN X0.here hx rfl (hb hby own_d_prog_36_method_2_code_14) rfl rfl k_) ?_
  show OGo p.tables e below _ (s₁.setTop (mkF m 15 #[.val (.ref ar), .val (.ref fn), .val (.ref ar), .val (.int (2 : Int32)), .val (.int (0 : Int32)), .unset] [(.ref ar)]))
  refine OGo.st (fun _ k_ => XS.iload X0.here hx rfl (hb hby own_d_prog_36_method_2_code_15) rfl k_) ?_
  show OGo p.tables e below _ (s₁.setTop (mkF m 17 #[.val (.ref ar), .val (.ref fn), .val (.ref ar), .val (.int (2 : Int32)), .val (.int (0 : Int32)), .unset] [(.int (0 : Int32)), (.ref ar)]))
  have qz2 := own_ldR X0 hx hZ e0 A_ar (j := (0 : Int32)) (v := (.ref pa)) (by decide) rfl (g := (mkF m 17 #[.val (.ref ar), .val (.ref fn), .val (.ref ar), .val (.int (2 : Int32)), .val (.int (0 : Int32)), .unset] [(.int (0 : Int32)), (.ref ar)])) rfl rfl (hb hby own_d_prog_36_method_2_code_17)
  refine OGo.st qz2 ?_
  show OGo p.tables e below _ (s₁.setTop (mkF m 18 #[.val (.ref ar), .val (.ref fn), .val (.ref ar), .val (.int (2 : Int32)), .val (.int (0 : Int32)), .unset] [(.ref pa)]))
  refine OGo.st (fun _ k_ => XS.astore X0.here hx rfl (hb hby own_d_prog_36_method_2_code_18) rfl rfl (l' := #[.val (.ref ar), .val (.ref fn), .val (.ref ar), .val (.int (2 : Int32)), .val (.int (0 : Int32)), .val (.ref pa)]) rfl k_) ?_
  show OGo p.tables e below _ (s₁.setTop (mkF m 20 #[.val (.ref ar), .val (.ref fn), .val (.ref ar), .val (.int (2 : Int32)), .val (.int (0 : Int32)), .val (.ref pa)] []))
  refine OGo.st (fun _ k_ => XS.aloadN X0.here hx rfl (hb hby own_d_prog_36_method_2_code_20) rfl rfl k_) ?_
  show OGo p.tables e below _ (s₁.setTop (mkF m 21 #[.val (.ref ar), .val (.ref fn), .val (.ref ar), .val (.int (2 : Int32)), .val (.int (0 : Int32)), .val (.ref pa)] [(.ref fn)]))
  refine OGo.st (fun _ k_ => XS.aload X0.here hx rfl (hb hby own_d_prog_36_method_2_code_21) rfl rfl k_) ?_
  show OGo p.tables e below _ (s₁.setTop (mkF m 23 #[.val (.ref ar), .val (.ref fn), .val (.ref ar), .val (.int (2 : Int32)), .val (.int (0 : Int32)), .val (.ref pa)] [(.ref pa), (.ref fn)]))
  obtain ⟨T3, Lz3, X3, ez3, Nq3, st3⟩ := own_test X0 hx hZ hown (hw _ (List.mem_of_getElem? (i := 94) rfl)) (hw _ (List.mem_of_getElem? (i := 95) rfl)) (hw _ (List.mem_of_getElem? (i := 96) rfl)) (hw _ (List.mem_of_getElem? (i := 98) rfl)) (hw _ (List.mem_of_getElem? (i := 97) rfl)) (hw _ (List.mem_of_getElem? (i := 3) rfl)) (hw _ (List.mem_of_getElem? (i := 89) rfl)) e0 (rm8 l Z a0 hw [] vv pa (1 : Int32) h0 n0 (Nat.le_trans Z0 (Keep.refl h0 []).1) F_code_pa) md Fn E_pa (g := (mkF m 23 #[.val (.ref ar), .val (.ref fn), .val (.ref ar), .val (.int (2 : Int32)), .val (.int (0 : Int32)), .val (.ref pa)] [(.ref pa), (.ref fn)])) rfl (by rw [hml]; rfl) rfl (hb hby own_d_prog_36_method_2_code_23) (by decide) (W := 0) (by show 2 * 0 + _ ≤ _; exact Nat.le_of_eq rfl) (by decide) (by decide) (by decide)
  have N3 := Fr.app N0 Nq3
  refine OGo.st st3 ?_
  show OGo p.tables e below _ (T3.setTop (mkF m 28 #[.val (.ref ar), .val (.ref fn), .val (.ref ar), .val (.int (2 : Int32)), .val (.int (0 : Int32)), .val (.ref pa)] [(.int (own_t (1 : Int32) vv))]))
  by_cases hc28 : (own_t (1 : Int32) vv) = 0
  · refine OGo.st (fun _ k_ => XS.ifYes X3.here hx rfl (pc0 := 28) (pc' := 34) rfl (hb hby own_d_prog_36_method_2_code_28) rfl (XT.i0_eq_t hc28) (by decide) (by decide) k_) ?_
    show OGo p.tables e below _ (T3.setTop (mkF m 34 #[.val (.ref ar), .val (.ref fn), .val (.ref ar), .val (.int (2 : Int32)), .val (.int (0 : Int32)), .val (.ref pa)] []))
    refine OGo.st (fun _ k_ => XS.iinc X3.here hx rfl (hb hby own_d_prog_36_method_2_code_34) rfl (l' := #[.val (.ref ar), .val (.ref fn), .val (.ref ar), .val (.int (2 : Int32)), .val (.int (1 : Int32)), .val (.ref pa)]) rfl k_) ?_
    show OGo p.tables e below _ (T3.setTop (mkF m 37 #[.val (.ref ar), .val (.ref fn), .val (.ref ar), .val (.int (2 : Int32)), .val (.int (1 : Int32)), .val (.ref pa)] []))
    refine OGo.st (fun _ k_ => XS.goto X3.here hx rfl (pc0 := 37) (pc' := 8) rfl (hb hby own_d_prog_36_method_2_code_37) (by decide) (by decide) k_) ?_
    show OGo p.tables e below _ (T3.setTop (mkF m 8 #[.val (.ref ar), .val (.ref fn), .val (.ref ar), .val (.int (2 : Int32)), .val (.int (1 : Int32)), .val (.ref pa)] []))
    refine OGo.st (fun _ k_ => XS.iload X3.here hx rfl (hb hby own_d_prog_36_method_2_code_8) rfl k_) ?_
    show OGo p.tables e below _ (T3.setTop (mkF m 10 #[.val (.ref ar), .val (.ref fn), .val (.ref ar), .val (.int (2 : Int32)), .val (.int (1 : Int32)), .val (.ref pa)] [(.int (1 : Int32))]))
    refine OGo.st (fun _ k_ => XS.iloadN X3.here hx rfl (hb hby own_d_prog_36_method_2_code_10) rfl k_) ?_
    show OGo p.tables e below _ (T3.setTop (mkF m 11 #[.val (.ref ar), .val (.ref fn), .val (.ref ar), .val (.int (2 : Int32)), .val (.int (1 : Int32)), .val (.ref pa)] [(.int (2 : Int32)), (.int (1 : Int32))]))
    refine OGo.st (fun _ k_ => XS.icmpNo X3.here hx rfl (hb hby own_d_prog_36_method_2_code_11) rfl (XT.ii_ge_f (by decide)) k_) ?_
    show OGo p.tables e below _ (T3.setTop (mkF m 14 #[.val (.ref ar), .val (.ref fn), .val (.ref ar), .val (.int (2 : Int32)), .val (.int (1 : Int32)), .val (.ref pa)] []))
    refine OGo.st (fun _ k_ => XS.aloadN X3.here hx rfl (hb hby own_d_prog_36_method_2_code_14) rfl rfl k_) ?_
    show OGo p.tables e below _ (T3.setTop (mkF m 15 #[.val (.ref ar), .val (.ref fn), .val (.ref ar), .val (.int (2 : Int32)), .val (.int (1 : Int32)), .val (.ref pa)] [(.ref ar)]))
    refine OGo.st (fun _ k_ => XS.iload X3.here hx rfl (hb hby own_d_prog_36_method_2_code_15) rfl k_) ?_
    show OGo p.tables e below _ (T3.setTop (mkF m 17 #[.val (.ref ar), .val (.ref fn), .val (.ref ar), .val (.int (2 : Int32)), .val (.int (1 : Int32)), .val (.ref pa)] [(.int (1 : Int32)), (.ref ar)]))
    have qz4 := own_ldR X3 hx hZ ez3 A_ar (j := (1 : Int32)) (v := (.ref ca)) (by decide) rfl (g := (mkF m 17 #[.val (.ref ar), .val (.ref fn), .val (.ref ar), .val (.int (2 : Int32)), .val (.int (1 : Int32)), .val (.ref pa)] [(.int (1 : Int32)), (.ref ar)])) rfl rfl (hb hby own_d_prog_36_method_2_code_17)
    refine OGo.st qz4 ?_
    show OGo p.tables e below _ (T3.setTop (mkF m 18 #[.val (.ref ar), .val (.ref fn), .val (.ref ar), .val (.int (2 : Int32)), .val (.int (1 : Int32)), .val (.ref pa)] [(.ref ca)]))
    refine OGo.st (fun _ k_ => XS.astore X3.here hx rfl (hb hby own_d_prog_36_method_2_code_18) rfl rfl (l' := #[.val (.ref ar), .val (.ref fn), .val (.ref ar), .val (.int (2 : Int32)), .val (.int (1 : Int32)), .val (.ref ca)]) rfl k_) ?_
    show OGo p.tables e below _ (T3.setTop (mkF m 20 #[.val (.ref ar), .val (.ref fn), .val (.ref ar), .val (.int (2 : Int32)), .val (.int (1 : Int32)), .val (.ref ca)] []))
    refine OGo.st (fun _ k_ => XS.aloadN X3.here hx rfl (hb hby own_d_prog_36_method_2_code_20) rfl rfl k_) ?_
    show OGo p.tables e below _ (T3.setTop (mkF m 21 #[.val (.ref ar), .val (.ref fn), .val (.ref ar), .val (.int (2 : Int32)), .val (.int (1 : Int32)), .val (.ref ca)] [(.ref fn)]))
    refine OGo.st (fun _ k_ => XS.aload X3.here hx rfl (hb hby own_d_prog_36_method_2_code_21) rfl rfl k_) ?_
    show OGo p.tables e below _ (T3.setTop (mkF m 23 #[.val (.ref ar), .val (.ref fn), .val (.ref ar), .val (.int (2 : Int32)), .val (.int (1 : Int32)), .val (.ref ca)] [(.ref ca), (.ref fn)]))
    obtain ⟨T5, Lz5, X5, ez5, Nq5, st5⟩ := own_test X3 hx hZ hown (hw _ (List.mem_of_getElem? (i := 94) rfl)) (hw _ (List.mem_of_getElem? (i := 95) rfl)) (hw _ (List.mem_of_getElem? (i := 96) rfl)) (hw _ (List.mem_of_getElem? (i := 98) rfl)) (hw _ (List.mem_of_getElem? (i := 97) rfl)) (hw _ (List.mem_of_getElem? (i := 3) rfl)) (hw _ (List.mem_of_getElem? (i := 89) rfl)) ez3 (rm8 l Z a0 hw [] vv ca (2 : Int32) h0 n0 (Nat.le_trans Z0 (Keep.refl h0 []).1) F_code_ca) md Fn E_ca (g := (mkF m 23 #[.val (.ref ar), .val (.ref fn), .val (.ref ar), .val (.int (2 : Int32)), .val (.int (1 : Int32)), .val (.ref ca)] [(.ref ca), (.ref fn)])) rfl (by rw [hml]; rfl) rfl (hb hby own_d_prog_36_method_2_code_23) (by decide) (W := 0) (by show 2 * 0 + _ ≤ _; exact Nat.le_of_eq rfl) (by decide) (by decide) (by decide)
    have N5 := Fr.app N3 Nq5
    refine OGo.st st5 ?_
    show OGo p.tables e below _ (T5.setTop (mkF m 28 #[.val (.ref ar), .val (.ref fn), .val (.ref ar), .val (.int (2 : Int32)), .val (.int (1 : Int32)), .val (.ref ca)] [(.int (own_t (2 : Int32) vv))]))
    by_cases hc28_6 : (own_t (2 : Int32) vv) = 0
    · refine OGo.st (fun _ k_ => XS.ifYes X5.here hx rfl (pc0 := 28) (pc' := 34) rfl (hb hby own_d_prog_36_method_2_code_28) rfl (XT.i0_eq_t hc28_6) (by decide) (by decide) k_) ?_
      show OGo p.tables e below _ (T5.setTop (mkF m 34 #[.val (.ref ar), .val (.ref fn), .val (.ref ar), .val (.int (2 : Int32)), .val (.int (1 : Int32)), .val (.ref ca)] []))
      refine OGo.st (fun _ k_ => XS.iinc X5.here hx rfl (hb hby own_d_prog_36_method_2_code_34) rfl (l' := #[.val (.ref ar), .val (.ref fn), .val (.ref ar), .val (.int (2 : Int32)), .val (.int (2 : Int32)), .val (.ref ca)]) rfl k_) ?_
      show OGo p.tables e below _ (T5.setTop (mkF m 37 #[.val (.ref ar), .val (.ref fn), .val (.ref ar), .val (.int (2 : Int32)), .val (.int (2 : Int32)), .val (.ref ca)] []))
      refine OGo.st (fun _ k_ => XS.goto X5.here hx rfl (pc0 := 37) (pc' := 8) rfl (hb hby own_d_prog_36_method_2_code_37) (by decide) (by decide) k_) ?_
      show OGo p.tables e below _ (T5.setTop (mkF m 8 #[.val (.ref ar), .val (.ref fn), .val (.ref ar), .val (.int (2 : Int32)), .val (.int (2 : Int32)), .val (.ref ca)] []))
      refine OGo.st (fun _ k_ => XS.iload X5.here hx rfl (hb hby own_d_prog_36_method_2_code_8) rfl k_) ?_
      show OGo p.tables e below _ (T5.setTop (mkF m 10 #[.val (.ref ar), .val (.ref fn), .val (.ref ar), .val (.int (2 : Int32)), .val (.int (2 : Int32)), .val (.ref ca)] [(.int (2 : Int32))]))
      refine OGo.st (fun _ k_ => XS.iloadN X5.here hx rfl (hb hby own_d_prog_36_method_2_code_10) rfl k_) ?_
      show OGo p.tables e below _ (T5.setTop (mkF m 11 #[.val (.ref ar), .val (.ref fn), .val (.ref ar), .val (.int (2 : Int32)), .val (.int (2 : Int32)), .val (.ref ca)] [(.int (2 : Int32)), (.int (2 : Int32))]))
      refine OGo.st (fun _ k_ => XS.icmpYes X5.here hx rfl (pc0 := 11) (pc' := 40) rfl (hb hby own_d_prog_36_method_2_code_11) rfl (XT.ii_ge_t (by decide)) (by decide) (by decide) k_) ?_
      show OGo p.tables e below _ (T5.setTop (mkF m 40 #[.val (.ref ar), .val (.ref fn), .val (.ref ar), .val (.int (2 : Int32)), .val (.int (2 : Int32)), .val (.ref ca)] []))
      refine OGo.st (fun _ k_ => XS.aconstNull X5.here hx rfl (hb hby own_d_prog_36_method_2_code_40) k_) ?_
      show OGo p.tables e below _ (T5.setTop (mkF m 41 #[.val (.ref ar), .val (.ref fn), .val (.ref ar), .val (.int (2 : Int32)), .val (.int (2 : Int32)), .val (.ref ca)] [.null]))
      refine OGo.fin X5 (v := some .null) (fun h => by rw [Bd.returns] at h; cases h) hlk (fun fs hr => X5.areturnOut hx rfl Bd.returns rfl (hb hby own_d_prog_36_method_2_code_41) hr) ?_ (by decide) (by decide)
      show own_Q_rm10 Z ar fn k cK pa ca vv h0 n0 _ T5.heap _
      rw [ez5]
      exact ⟨congrArg some (by unfold own_ft; rw [if_neg (own_t0 hc28), if_neg (own_t0 hc28_6)]), N5, rfl⟩
    · refine OGo.st (fun _ k_ => XS.ifNo X5.here hx rfl (hb hby own_d_prog_36_method_2_code_28) rfl (XT.i0_eq_f hc28_6) k_) ?_
      show OGo p.tables e below _ (T5.setTop (mkF m 31 #[.val (.ref ar), .val (.ref fn), .val (.ref ar), .val (.int (2 : Int32)), .val (.int (1 : Int32)), .val (.ref ca)] []))
      refine OGo.st (fun _ k_ => XS.aload X5.here hx rfl (hb hby own_d_prog_36_method_2_code_31) rfl rfl k_) ?_
      show OGo p.tables e below _ (T5.setTop (mkF m 33 #[.val (.ref ar), .val (.ref fn), .val (.ref ar), .val (.int (2 : Int32)), .val (.int (1 : Int32)), .val (.ref ca)] [(.ref ca)]))
      refine OGo.fin X5 (v := some (.ref ca)) (fun h => by rw [Bd.returns] at h; cases h) hlk (fun fs hr => X5.areturnOut hx rfl Bd.returns rfl (hb hby own_d_prog_36_method_2_code_33) hr) ?_ (by decide) (by decide)
      show own_Q_rm10 Z ar fn k cK pa ca vv h0 n0 _ T5.heap _
      rw [ez5]
      exact ⟨congrArg some (by unfold own_ft; rw [if_neg (own_t0 hc28), if_pos (own_t1 hc28_6)]), N5, rfl⟩
  · refine OGo.st (fun _ k_ => XS.ifNo X3.here hx rfl (hb hby own_d_prog_36_method_2_code_28) rfl (XT.i0_eq_f hc28) k_) ?_
    show OGo p.tables e below _ (T3.setTop (mkF m 31 #[.val (.ref ar), .val (.ref fn), .val (.ref ar), .val (.int (2 : Int32)), .val (.int (0 : Int32)), .val (.ref pa)] []))
    refine OGo.st (fun _ k_ => XS.aload X3.here hx rfl (hb hby own_d_prog_36_method_2_code_31) rfl rfl k_) ?_
    show OGo p.tables e below _ (T3.setTop (mkF m 33 #[.val (.ref ar), .val (.ref fn), .val (.ref ar), .val (.int (2 : Int32)), .val (.int (0 : Int32)), .val (.ref pa)] [(.ref pa)]))
    refine OGo.fin X3 (v := some (.ref pa)) (fun h => by rw [Bd.returns] at h; cases h) hlk (fun fs hr => X3.areturnOut hx rfl Bd.returns rfl (hb hby own_d_prog_36_method_2_code_33) hr) ?_ (by decide) (by decide)
    show own_Q_rm10 Z ar fn k cK pa ca vv h0 n0 _ T3.heap _
    rw [ez3]
    exact ⟨congrArg some (by unfold own_ft; rw [if_pos (own_t1 hc28)]), N3, rfl⟩
theorem own_d_prog_52_method_5_code_0 : decode prog_52_method_5_code 0 = .ok (.invokestatic 37, 3) := by decide +kernel
theorem own_pd5 : parseMethodDescriptor "()[Lcom/example/crivo/crivo/UpdateRule;" = some ⟨[], some (.array (.object "com/example/crivo/crivo/UpdateRule"))⟩ := by decide +kernel
theorem own_d_prog_52_method_5_code_3 : decode prog_52_method_5_code 3 = .ok (.lload_n 0, 1) := by decide +kernel
theorem own_d_prog_52_method_5_code_4 : decode prog_52_method_5_code 4 = .ok (.invokedynamic 51, 5) := by decide +kernel
theorem own_d_prog_52_method_5_code_9 : decode prog_52_method_5_code 9 = .ok (.invokestatic 45, 3) := by decide +kernel
theorem own_pd6 : parseMethodDescriptor "([Ljava/lang/Object;Ljava/util/function/Predicate;)Ljava/lang/Object;" = some ⟨[(.array (.object "java/lang/Object")), (.object "java/util/function/Predicate")], some (.object "java/lang/Object")⟩ := by decide +kernel
theorem own_d_prog_52_method_5_code_12 : decode prog_52_method_5_code 12 = .ok (.checkcast 1, 3) := by decide +kernel
theorem own_d_prog_52_method_5_code_15 : decode prog_52_method_5_code 15 = .ok (.areturn, 1) := by decide +kernel
theorem own_ef_rm11 (m : MethodId) (x0 : Int64) : entryFrame m #[(.long x0)] 2 = mkF m 0 #[.val (.long x0), .second] [] := by first | (simp [entryFrame, mkF, argsToLocals, Value.category]; done) | rfl
def own_Q_rm11 (Z : State) (vv : Int64) (va : Addr) (k : ClassId) (pa ca r : Addr) (h0 : Heap) (n0 : Nat) (v : Option Value) (h : Heap) (L : List Loc) : Prop := v = some (.ref r) ∧ Fr n0 L ∧ Keep h0 h []
set_option maxRecDepth 65536 in
set_option maxHeartbeats 40000000 in
theorem rm11 (l : Launch) (Z : State) (a0 : Array Value) (hw : ∀ d ∈ tables_1, d.before a0 Z = true) (ws : List Jvm.Cond) (vv : Int64) (va : Addr) (k : ClassId) (pa ca r : Addr) (h0 : Heap) (n0 : Nat) (Z0 : n0 ≤ h0.size) (hr : own_ft vv pa ca = .ref r) (S_va : Sta Z h0 "com/example/crivo/crivo/UpdateRule" "$VALUES" "[Lcom/example/crivo/crivo/UpdateRule;" (.ref va)) (E_va : Exa Z h0 va "[Lcom/example/crivo/crivo/UpdateRule;") (A_va : Arf Z h0 va k (.object "com/example/crivo/crivo/UpdateRule") 2 (own_P pa ca)) (E_pa : Exa Z h0 pa "com/example/crivo/crivo/UpdateRule") (F_code_pa : Fld Z h0 pa "com/example/crivo/crivo/UpdateRule" "code" "I" (.int (1 : Int32))) (E_ca : Exa Z h0 ca "com/example/crivo/crivo/UpdateRule") (F_code_ca : Fld Z h0 ca "com/example/crivo/crivo/UpdateRule" "code" "I" (.int (2 : Int32))) (E_r : Exa Z h0 r "com/example/crivo/crivo/UpdateRule") :
    OMet l Z (⟨"com/example/crivo/crivo/UpdateRule", "withCode", "(J)Lcom/example/crivo/crivo/UpdateRule;"⟩ : MethodName) prog_52_method_5_code 2 (some (.object "com/example/crivo/crivo/UpdateRule")) ws ({ frames := 3, cells := 2, slots := 3, locals := 3075 } : Room) #[(.long vv)] h0 (own_Q_rm11 Z vv va k pa ca r h0 n0) := by
  refine MetFree.of_bodySF (plainFor_of_name own_pn4) hisR ?_
  intro p e s m args below meth c s₁ Bd hml0 hP hK
  obtain ⟨rfl, hZ, hh⟩ := hP
  have hx := Bd.exec
  have hby := Bd.bytes
  have hml : c.maxLocals = 2 := hml0
  have hown : s.vm.findClass "com/example/crivo/crivo/UpdateRule" = some m.cls := findClass_of_methodNamed Bd.named
  have hnm := (name_of_methodNamed Bd.named Bd.method).1
  have hlk : meth.locks = false := Bd.notSynchronized
  have X0 : Stand p l e ({ frames := 3, cells := 2, slots := 3, locals := 3075 } : Room) s m #[(.long vv)] below meth c s₁ [] 0 0 := Stand.of_body Bd
  have e0 : s₁.heap = h0 := by rw [← hh, Bd.state]; rfl
  have N0 := Fr.nil n0
  refine OGo.enter (P := OPost s (own_Q_rm11 Z vv va k pa ca r h0 n0) 2 3) (own_ef_rm11 m vv) ?_
  show OGo p.tables e below _ (s₁.setTop (mkF m 0 #[.val (.long vv), .second] []))
  obtain ⟨_, _, ⟨T1, Lz1, kz1, nz1⟩, -, X1, ⟨Lc1, hQ1, lz1, yz1, zz1⟩, st1⟩ := Jvm.LawKit.callS X0 hx (y := (⟨"com/example/crivo/crivo/UpdateRule", "values", "()[Lcom/example/crivo/crivo/UpdateRule;"⟩ : MethodName)) hown (mvT hZ (hw _ (List.mem_of_getElem? (i := 70) rfl))) (mvT hZ (hw _ (List.mem_of_getElem? (i := 71) rfl))) (mvT hZ (hw _ (List.mem_of_getElem? (i := 3) rfl))) (mvT hZ (hw _ (List.mem_of_getElem? (i := 72) rfl))) (by decide) (backOf (W := 0) (rm9 l Z a0 hw [] va k pa ca h0 n0 (Nat.le_trans Z0 (Keep.refl h0 []).1) S_va E_va A_va) hZ (hw _ (List.mem_of_getElem? (i := 72) rfl)) (hw _ (List.mem_of_getElem? (i := 3) rfl)) (by decide) (by decide)) (g := (mkF m 0 #[.val (.long vv), .second] [])) rfl (by rw [hml]; rfl) (argsL := []) (rest := []) (lenOf own_pd5 rfl) rfl (by show 2 * 0 + _ ≤ _; exact Nat.le_of_eq rfl) (hb hby own_d_prog_52_method_5_code_0) (fun _ _ => ⟨rfl, e0, (by decide : 0 + 1 ≤ _), (by decide : 0 + 2 ≤ _)⟩)
  dsimp only [Pt.U, Pt.locs, Pt.cells, Pt.slots] at X1 lz1 yz1 zz1 st1 hQ1
  subst lz1 yz1 zz1
  obtain ⟨yq1, rfl, Nq1, Kq1, gq1, sq1, Aq1⟩ := hQ1
  have N1 := Fr.app N0 Nq1
  have ne_va_yq1 : va ≠ yq1 := Nat.ne_of_lt (Nat.lt_of_lt_of_le E_va.lt sq1)
  have ne_pa_yq1 : pa ≠ yq1 := Nat.ne_of_lt (Nat.lt_of_lt_of_le E_pa.lt sq1)
  have ne_ca_yq1 : ca ≠ yq1 := Nat.ne_of_lt (Nat.lt_of_lt_of_le E_ca.lt sq1)
  have ne_r_yq1 : r ≠ yq1 := Nat.ne_of_lt (Nat.lt_of_lt_of_le E_r.lt sq1)
  have szq1 : h0.size ≤ yq1 := Nat.le_trans (Keep.refl h0 []).1 sq1
  have Ex_2 := E_va.keep Kq1
  have Af_3 := A_va.keep Kq1 nin0
  have Ex_4 := E_pa.keep Kq1
  have F_5 := F_code_pa.keep Kq1 nin0
  have Ex_6 := E_ca.keep Kq1
  have F_7 := F_code_ca.keep Kq1 nin0
  have Ex_8 := E_r.keep Kq1
  have K_9 : Keep h0 T1.heap [] := (Keep.refl h0 []).trans Kq1 all0
  refine OGo.st st1 ?_
  show OGo p.tables e below _ (T1.setTop (mkF m 3 #[.val (.long vv), .second] [(.ref yq1)]))
  refine OGo.st (fun _ k_ => XS.lloadN X1.here hx rfl (hb hby own_d_prog_52_method_5_code_3) rfl k_) ?_
  show OGo p.tables e below _ (T1.setTop (mkF m 4 #[.val (.long vv), .second] [(.long vv), (.ref yq1)]))
  obtain ⟨T10, hz10, cK10, md10, X10, ez10, Ez10, Fn10, st10⟩ := own_site X1 hx hZ (x := ⟨"com/example/crivo/crivo/UpdateRule", "withCode", "(J)Lcom/example/crivo/crivo/UpdateRule;"⟩) Bd.named (hw _ (List.mem_of_getElem? (i := 86) rfl)) rfl own_cap (hw _ (List.mem_of_getElem? (i := 89) rfl)) rfl (g := (mkF m 4 #[.val (.long vv), .second] [(.long vv), (.ref yq1)])) rfl rfl (by rw [hml]; rfl) (hb hby own_d_prog_52_method_5_code_4) rfl (by show 2 * 0 + 3 + 3072 ≤ _; decide) (by decide) (by decide)
  obtain ⟨bz10, g10⟩ : ∃ z, z = T1.heap.size := ⟨_, rfl⟩
  rw [← g10] at Fn10 st10
  have lt_va_bz10 : @LT.lt Nat instLTNat va bz10 := Nat.lt_of_lt_of_le Ex_2.lt (Nat.le_of_eq g10.symm)
  have lt_pa_bz10 : @LT.lt Nat instLTNat pa bz10 := Nat.lt_of_lt_of_le Ex_4.lt (Nat.le_of_eq g10.symm)
  have lt_ca_bz10 : @LT.lt Nat instLTNat ca bz10 := Nat.lt_of_lt_of_le Ex_6.lt (Nat.le_of_eq g10.symm)
  have lt_r_bz10 : @LT.lt Nat instLTNat r bz10 := Nat.lt_of_lt_of_le Ex_8.lt (Nat.le_of_eq g10.symm)
  have lt_yq1_bz10 : @LT.lt Nat instLTNat yq1 bz10 := Nat.lt_of_lt_of_le Aq1.lt (Nat.le_of_eq g10.symm)
  have g_bz10 : n0 ≤ bz10 := Nat.le_trans (Nat.le_trans Z0 K_9.1) (Nat.le_of_eq g10.symm)
  have sz_bz10 : h0.size ≤ bz10 := Nat.le_trans K_9.1 (Nat.le_of_eq g10.symm)
  have Ex_11 := Ex_2.ext Ez10
  have Af_12 := Af_3.ext Ez10
  have Ex_13 := Ex_4.ext Ez10
  have F_14 := F_5.ext Ez10
  have Ex_15 := Ex_6.ext Ez10
  have F_16 := F_7.ext Ez10
  have Ex_17 := Ex_8.ext Ez10
  have Af_18 := Aq1.ext Ez10
  have K_19 : Keep h0 hz10 [] := K_9.ext Ez10
  refine OGo.st st10 ?_
  show OGo p.tables e below _ (T10.setTop (mkF m 9 #[.val (.long vv), .second] [(.ref bz10), (.ref yq1)]))
  obtain ⟨_, _, ⟨T20, Lz20, kz20, nz20⟩, -, X20, ⟨Lc20, hQ20, lz20, yz20, zz20⟩, st20⟩ := Jvm.LawKit.callS X10 hx (y := (⟨"com/example/crivo/crivo/Lookup", "first", "([Ljava/lang/Object;Ljava/util/function/Predicate;)Ljava/lang/Object;"⟩ : MethodName)) hown (mvT hZ (hw _ (List.mem_of_getElem? (i := 90) rfl))) (mvT hZ (hw _ (List.mem_of_getElem? (i := 91) rfl))) (mvT hZ (hw _ (List.mem_of_getElem? (i := 92) rfl))) (mvT hZ (hw _ (List.mem_of_getElem? (i := 93) rfl))) (by decide) (backOf (W := 0) (rm10 l Z a0 hw [] yq1 bz10 k cK10 pa ca vv hz10 n0 (Nat.le_trans Z0 K_19.1) md10 Fn10 Af_18 Ex_13 F_14 Ex_15 F_16) hZ (hw _ (List.mem_of_getElem? (i := 93) rfl)) (hw _ (List.mem_of_getElem? (i := 92) rfl)) (by decide) (by decide)) (g := (mkF m 9 #[.val (.long vv), .second] [(.ref bz10), (.ref yq1)])) rfl (by rw [hml]; rfl) (argsL := [(.ref yq1), (.ref bz10)]) (rest := []) (lenOf own_pd6 rfl) rfl (by show 2 * 0 + _ ≤ _; exact Nat.le_of_eq rfl) (hb hby own_d_prog_52_method_5_code_9) (fun _ _ => ⟨rfl, ez10, (by decide : 2 + 0 ≤ _), (by decide : 3 + 0 ≤ _)⟩)
  dsimp only [Pt.U, Pt.locs, Pt.cells, Pt.slots] at X20 lz20 yz20 zz20 st20 hQ20
  subst lz20 yz20 zz20
  obtain ⟨rfl, Nq20, ez20⟩ := hQ20
  have N20 := Fr.app N1 Nq20
  refine OGo.st st20 ?_
  show OGo p.tables e below _ (T20.setTop (mkF m 12 #[.val (.long vv), .second] [(own_ft vv pa ca)]))
  rw [hr]
  show OGo p.tables e below _ (T20.setTop (mkF m 12 #[.val (.long vv), .second] [(.ref r)]))
  obtain ⟨T21, X21, ez21, st21⟩ := castY X20 hx hZ hown (hw _ (List.mem_of_getElem? (i := 100) rfl)) ez20 (Ins.of_exa Ex_17 (hw _ (List.mem_of_getElem? (i := 88) rfl))) (g := (mkF m 12 #[.val (.long vv), .second] [(.ref r)])) rfl rfl (hb hby own_d_prog_52_method_5_code_12)
  refine OGo.st st21 ?_
  show OGo p.tables e below _ (T21.setTop (mkF m 15 #[.val (.long vv), .second] [(.ref r)]))
  refine OGo.fin X21 (v := some (.ref r)) (fun h => by rw [Bd.returns] at h; cases h) hlk (fun fs hr => X21.areturnOut hx rfl Bd.returns rfl (hb hby own_d_prog_52_method_5_code_15) hr) ?_ (by decide) (by decide)
  show own_Q_rm11 Z vv va k pa ca r h0 n0 _ T21.heap _
  rw [ez21]
  exact ⟨rfl, N20, K_19⟩
theorem own_d_prog_14_method_3_code_0 : decode prog_14_method_3_code 0 = .ok (.iconst 4, 1) := by decide +kernel
theorem own_d_prog_14_method_3_code_1 : decode prog_14_method_3_code 1 = .ok (.newarray .long, 2) := by decide +kernel
theorem own_d_prog_14_method_3_code_3 : decode prog_14_method_3_code 3 = .ok (.dup, 1) := by decide +kernel
theorem own_d_prog_14_method_3_code_4 : decode prog_14_method_3_code 4 = .ok (.iconst 0, 1) := by decide +kernel
theorem own_d_prog_14_method_3_code_5 : decode prog_14_method_3_code 5 = .ok (.aload_n 0, 1) := by decide +kernel
theorem own_d_prog_14_method_3_code_6 : decode prog_14_method_3_code 6 = .ok (.getfield 21, 3) := by decide +kernel
theorem own_d_prog_14_method_3_code_9 : decode prog_14_method_3_code 9 = .ok (.lastore, 1) := by decide +kernel
theorem own_d_prog_14_method_3_code_10 : decode prog_14_method_3_code 10 = .ok (.dup, 1) := by decide +kernel
theorem own_d_prog_14_method_3_code_11 : decode prog_14_method_3_code 11 = .ok (.iconst 1, 1) := by decide +kernel
theorem own_d_prog_14_method_3_code_12 : decode prog_14_method_3_code 12 = .ok (.aload_n 0, 1) := by decide +kernel
theorem own_d_prog_14_method_3_code_13 : decode prog_14_method_3_code 13 = .ok (.getfield 25, 3) := by decide +kernel
theorem own_d_prog_14_method_3_code_16 : decode prog_14_method_3_code 16 = .ok (.i2l, 1) := by decide +kernel
theorem own_d_prog_14_method_3_code_17 : decode prog_14_method_3_code 17 = .ok (.lastore, 1) := by decide +kernel
theorem own_d_prog_14_method_3_code_18 : decode prog_14_method_3_code 18 = .ok (.dup, 1) := by decide +kernel
theorem own_d_prog_14_method_3_code_19 : decode prog_14_method_3_code 19 = .ok (.iconst 2, 1) := by decide +kernel
theorem own_d_prog_14_method_3_code_20 : decode prog_14_method_3_code 20 = .ok (.aload_n 0, 1) := by decide +kernel
theorem own_d_prog_14_method_3_code_21 : decode prog_14_method_3_code 21 = .ok (.getfield 29, 3) := by decide +kernel
theorem own_d_prog_14_method_3_code_24 : decode prog_14_method_3_code 24 = .ok (.i2l, 1) := by decide +kernel
theorem own_d_prog_14_method_3_code_25 : decode prog_14_method_3_code 25 = .ok (.lastore, 1) := by decide +kernel
theorem own_d_prog_14_method_3_code_26 : decode prog_14_method_3_code 26 = .ok (.dup, 1) := by decide +kernel
theorem own_d_prog_14_method_3_code_27 : decode prog_14_method_3_code 27 = .ok (.iconst 3, 1) := by decide +kernel
theorem own_d_prog_14_method_3_code_28 : decode prog_14_method_3_code 28 = .ok (.aload_n 0, 1) := by decide +kernel
theorem own_d_prog_14_method_3_code_29 : decode prog_14_method_3_code 29 = .ok (.getfield 32, 3) := by decide +kernel
theorem own_d_prog_14_method_3_code_32 : decode prog_14_method_3_code 32 = .ok (.getfield 53, 3) := by decide +kernel
theorem own_d_prog_14_method_3_code_35 : decode prog_14_method_3_code 35 = .ok (.i2l, 1) := by decide +kernel
theorem own_d_prog_14_method_3_code_36 : decode prog_14_method_3_code 36 = .ok (.lastore, 1) := by decide +kernel
theorem own_d_prog_14_method_3_code_37 : decode prog_14_method_3_code 37 = .ok (.areturn, 1) := by decide +kernel
theorem own_ef_rm12 (m : MethodId) (x0 : Addr) : entryFrame m #[(.ref x0)] 1 = mkF m 0 #[.val (.ref x0)] [] := by first | (simp [entryFrame, mkF, argsToLocals, Value.category]; done) | rfl
def own_Q_rm12 (Z : State) (a1 : Addr) (q1 : Int64) (hI cI : Int32) (r : Addr) (cd : Int32) (h0 : Heap) (n0 : Nat) (v : Option Value) (h : Heap) (L : List Loc) : Prop := ∃ (y : Addr) (k : ClassId), v = some (.ref y) ∧ Fr n0 L ∧ Keep h0 h [] ∧ n0 ≤ y ∧ h0.size ≤ y ∧ Arf Z h y k .long 4 (own_F q1 hI.toInt64 cI.toInt64 cd.toInt64)
set_option maxRecDepth 65536 in
set_option maxHeartbeats 40000000 in
theorem rm12 (l : Launch) (Z : State) (a0 : Array Value) (hw : ∀ d ∈ tables_1, d.before a0 Z = true) (ws : List Jvm.Cond) (a1 : Addr) (q1 : Int64) (hI cI : Int32) (r : Addr) (cd : Int32) (h0 : Heap) (n0 : Nat) (Z0 : n0 ≤ h0.size) (F_counters_a1 : Fld Z h0 a1 "com/example/crivo/crivo/CountingParameters" "counters" "J" (.long q1)) (F_hashes_a1 : Fld Z h0 a1 "com/example/crivo/crivo/CountingParameters" "hashes" "I" (.int hI)) (F_counterBits_a1 : Fld Z h0 a1 "com/example/crivo/crivo/CountingParameters" "counterBits" "I" (.int cI)) (F_update_a1 : Fld Z h0 a1 "com/example/crivo/crivo/CountingParameters" "update" "Lcom/example/crivo/crivo/UpdateRule;" (.ref r)) (F_code_r : Fld Z h0 r "com/example/crivo/crivo/UpdateRule" "code" "I" (.int cd)) :
    OMet l Z (⟨"com/example/crivo/crivo/CountingParameters", "toFile", "()[J"⟩ : MethodName) prog_14_method_3_code 1 (some (.array .long)) ws ({ frames := 0, cells := 1, slots := 4, locals := 0 } : Room) #[(.ref a1)] h0 (own_Q_rm12 Z a1 q1 hI cI r cd h0 n0) := by
  refine MetFree.of_bodySF (plainFor_of_name own_pn1) hisR ?_
  intro p e s m args below meth c s₁ Bd hml0 hP hK
  obtain ⟨rfl, hZ, hh⟩ := hP
  have hx := Bd.exec
  have hby := Bd.bytes
  have hml : c.maxLocals = 1 := hml0
  have hown : s.vm.findClass "com/example/crivo/crivo/CountingParameters" = some m.cls := findClass_of_methodNamed Bd.named
  have hnm := (name_of_methodNamed Bd.named Bd.method).1
  have hlk : meth.locks = false := Bd.notSynchronized
  have X0 : Stand p l e ({ frames := 0, cells := 1, slots := 4, locals := 0 } : Room) s m #[(.ref a1)] below meth c s₁ [] 0 0 := Stand.of_body Bd
  have e0 : s₁.heap = h0 := by rw [← hh, Bd.state]; rfl
  have N0 := Fr.nil n0
  refine OGo.enter (P := OPost s (own_Q_rm12 Z a1 q1 hI cI r cd h0 n0) 1 4) (own_ef_rm12 m a1) ?_
  show OGo p.tables e below _ (s₁.setTop (mkF m 0 #[.val (.ref a1)] []))
  refine OGo.st (fun _ k_ => XS.iconst X0.here hx rfl (hb hby own_d_prog_14_method_3_code_0) k_) ?_
  show OGo p.tables e below _ (s₁.setTop (mkF m 1 #[.val (.ref a1)] [(.int (4 : Int32))]))
  obtain ⟨T1, hz1, kz1, X1, ez1, Ez1, Az1, st1⟩ := newP X0 hx hZ (hw _ (List.mem_of_getElem? (i := 61) rfl)) e0 (g := (mkF m 1 #[.val (.ref a1)] [(.int (4 : Int32))])) rfl (hb hby own_d_prog_14_method_3_code_1) rfl (by decide) (cap := 4) (by decide) (by decide) (by decide) (by decide)
  obtain ⟨bz1, g1⟩ : ∃ z, z = h0.size := ⟨_, rfl⟩
  rw [← g1] at Az1 st1
  have lt_a1_bz1 : @LT.lt Nat instLTNat a1 bz1 := Nat.lt_of_lt_of_le F_counters_a1.lt (Nat.le_of_eq g1.symm)
  have lt_r_bz1 : @LT.lt Nat instLTNat r bz1 := Nat.lt_of_lt_of_le F_code_r.lt (Nat.le_of_eq g1.symm)
  have g_bz1 : n0 ≤ bz1 := Nat.le_trans (Nat.le_trans Z0 (Keep.refl h0 []).1) (Nat.le_of_eq g1.symm)
  have sz_bz1 : h0.size ≤ bz1 := Nat.le_trans (Keep.refl h0 []).1 (Nat.le_of_eq g1.symm)
  have F_2 := F_counters_a1.ext Ez1
  have F_3 := F_hashes_a1.ext Ez1
  have F_4 := F_counterBits_a1.ext Ez1
  have F_5 := F_update_a1.ext Ez1
  have F_6 := F_code_r.ext Ez1
  have K_7 : Keep h0 hz1 [] := (Keep.refl h0 []).ext Ez1
  have V_bz1 : Arf Z hz1 bz1 kz1 .long (4 : Int32) (fun _ => (.long (0 : Int64))) := own_new Az1 (by decide)
  refine OGo.st st1 ?_
  show OGo p.tables e below _ (T1.setTop (mkF m 3 #[.val (.ref a1)] [(.ref bz1)]))
  refine OGo.st (fun _ k_ => XS.dup X1.here hx rfl (hb hby own_d_prog_14_method_3_code_3) rfl rfl k_) ?_
  show OGo p.tables e below _ (T1.setTop (mkF m 4 #[.val (.ref a1)] [(.ref bz1), (.ref bz1)]))
  refine OGo.st (fun _ k_ => XS.iconst X1.here hx rfl (hb hby own_d_prog_14_method_3_code_4) k_) ?_
  show OGo p.tables e below _ (T1.setTop (mkF m 5 #[.val (.ref a1)] [(.int (0 : Int32)), (.ref bz1), (.ref bz1)]))
  refine OGo.st (fun _ k_ => XS.aloadN X1.here hx rfl (hb hby own_d_prog_14_method_3_code_5) rfl rfl k_) ?_
  show OGo p.tables e below _ (T1.setTop (mkF m 6 #[.val (.ref a1)] [(.ref a1), (.int (0 : Int32)), (.ref bz1), (.ref bz1)]))
  obtain ⟨T8, X8, ez8, st8⟩ := getF X1 hx hZ hown (host := "") (Or.inl (hw _ (List.mem_of_getElem? (i := 48) rfl))) Via.refl ez1 F_2 (g := (mkF m 6 #[.val (.ref a1)] [(.ref a1), (.int (0 : Int32)), (.ref bz1), (.ref bz1)])) rfl rfl (hb hby own_d_prog_14_method_3_code_6)
  refine OGo.st st8 ?_
  show OGo p.tables e below _ (T8.setTop (mkF m 9 #[.val (.ref a1)] [(.long q1), (.int (0 : Int32)), (.ref bz1), (.ref bz1)]))
  obtain ⟨T9, hz9, X9, ez9, W9, V9, st9⟩ := own_stJ X8 hx hZ ez8 V_bz1 (j := (0 : Int32)) (by decide)  (g := (mkF m 9 #[.val (.ref a1)] [(.long q1), (.int (0 : Int32)), (.ref bz1), (.ref bz1)])) rfl rfl (hb hby own_d_prog_14_method_3_code_9)
  have F_10 := F_2.other W9 (Or.inl (Nat.ne_of_lt lt_a1_bz1))
  have F_11 := F_3.other W9 (Or.inl (Nat.ne_of_lt lt_a1_bz1))
  have F_12 := F_4.other W9 (Or.inl (Nat.ne_of_lt lt_a1_bz1))
  have F_13 := F_5.other W9 (Or.inl (Nat.ne_of_lt lt_a1_bz1))
  have F_14 := F_6.other W9 (Or.inl (Nat.ne_of_lt lt_r_bz1))
  have N9 := Fr.snoc X9 N0 g_bz1
  have K_15 : Keep h0 hz9 [] := K_7.wr W9 (Or.inr sz_bz1)
  refine OGo.st st9 ?_
  show OGo p.tables e below _ (T9.setTop (mkF m 10 #[.val (.ref a1)] [(.ref bz1)]))
  refine OGo.st (fun _ k_ => XS.dup X9.here hx rfl (hb hby own_d_prog_14_method_3_code_10) rfl rfl k_) ?_
  show OGo p.tables e below _ (T9.setTop (mkF m 11 #[.val (.ref a1)] [(.ref bz1), (.ref bz1)]))
  refine OGo.st (fun _ k_ => XS.iconst X9.here hx rfl (hb hby own_d_prog_14_method_3_code_11) k_) ?_
  show OGo p.tables e below _ (T9.setTop (mkF m 12 #[.val (.ref a1)] [(.int (1 : Int32)), (.ref bz1), (.ref bz1)]))
  refine OGo.st (fun _ k_ => XS.aloadN X9.here hx rfl (hb hby own_d_prog_14_method_3_code_12) rfl rfl k_) ?_
  show OGo p.tables e below _ (T9.setTop (mkF m 13 #[.val (.ref a1)] [(.ref a1), (.int (1 : Int32)), (.ref bz1), (.ref bz1)]))
  obtain ⟨T16, X16, ez16, st16⟩ := getF X9 hx hZ hown (host := "") (Or.inl (hw _ (List.mem_of_getElem? (i := 50) rfl))) Via.refl ez9 F_11 (g := (mkF m 13 #[.val (.ref a1)] [(.ref a1), (.int (1 : Int32)), (.ref bz1), (.ref bz1)])) rfl rfl (hb hby own_d_prog_14_method_3_code_13)
  refine OGo.st st16 ?_
  show OGo p.tables e below _ (T16.setTop (mkF m 16 #[.val (.ref a1)] [(.int hI), (.int (1 : Int32)), (.ref bz1), (.ref bz1)]))
  refine OGo.st (fun _ k_ => XS.i2l X16.here hx rfl (hb hby own_d_prog_14_method_3_code_16) rfl k_) ?_
  show OGo p.tables e below _ (T16.setTop (mkF m 17 #[.val (.ref a1)] [(.long hI.toInt64), (.int (1 : Int32)), (.ref bz1), (.ref bz1)]))
  obtain ⟨T17, hz17, X17, ez17, W17, V17, st17⟩ := own_stJ X16 hx hZ ez16 V9 (j := (1 : Int32)) (by decide)  (g := (mkF m 17 #[.val (.ref a1)] [(.long hI.toInt64), (.int (1 : Int32)), (.ref bz1), (.ref bz1)])) rfl rfl (hb hby own_d_prog_14_method_3_code_17)
  have F_18 := F_10.other W17 (Or.inl (Nat.ne_of_lt lt_a1_bz1))
  have F_19 := F_11.other W17 (Or.inl (Nat.ne_of_lt lt_a1_bz1))
  have F_20 := F_12.other W17 (Or.inl (Nat.ne_of_lt lt_a1_bz1))
  have F_21 := F_13.other W17 (Or.inl (Nat.ne_of_lt lt_a1_bz1))
  have F_22 := F_14.other W17 (Or.inl (Nat.ne_of_lt lt_r_bz1))
  have N17 := Fr.snoc X17 N9 g_bz1
  have K_23 : Keep h0 hz17 [] := K_15.wr W17 (Or.inr sz_bz1)
  refine OGo.st st17 ?_
  show OGo p.tables e below _ (T17.setTop (mkF m 18 #[.val (.ref a1)] [(.ref bz1)]))
  refine OGo.st (fun _ k_ => XS.dup X17.here hx rfl (hb hby own_d_prog_14_method_3_code_18) rfl rfl k_) ?_
  show OGo p.tables e below _ (T17.setTop (mkF m 19 #[.val (.ref a1)] [(.ref bz1), (.ref bz1)]))
  refine OGo.st (fun _ k_ => XS.iconst X17.here hx rfl (hb hby own_d_prog_14_method_3_code_19) k_) ?_
  show OGo p.tables e below _ (T17.setTop (mkF m 20 #[.val (.ref a1)] [(.int (2 : Int32)), (.ref bz1), (.ref bz1)]))
  refine OGo.st (fun _ k_ => XS.aloadN X17.here hx rfl (hb hby own_d_prog_14_method_3_code_20) rfl rfl k_) ?_
  show OGo p.tables e below _ (T17.setTop (mkF m 21 #[.val (.ref a1)] [(.ref a1), (.int (2 : Int32)), (.ref bz1), (.ref bz1)]))
  obtain ⟨T24, X24, ez24, st24⟩ := getF X17 hx hZ hown (host := "") (Or.inl (hw _ (List.mem_of_getElem? (i := 52) rfl))) Via.refl ez17 F_20 (g := (mkF m 21 #[.val (.ref a1)] [(.ref a1), (.int (2 : Int32)), (.ref bz1), (.ref bz1)])) rfl rfl (hb hby own_d_prog_14_method_3_code_21)
  refine OGo.st st24 ?_
  show OGo p.tables e below _ (T24.setTop (mkF m 24 #[.val (.ref a1)] [(.int cI), (.int (2 : Int32)), (.ref bz1), (.ref bz1)]))
  refine OGo.st (fun _ k_ => XS.i2l X24.here hx rfl (hb hby own_d_prog_14_method_3_code_24) rfl k_) ?_
  show OGo p.tables e below _ (T24.setTop (mkF m 25 #[.val (.ref a1)] [(.long cI.toInt64), (.int (2 : Int32)), (.ref bz1), (.ref bz1)]))
  obtain ⟨T25, hz25, X25, ez25, W25, V25, st25⟩ := own_stJ X24 hx hZ ez24 V17 (j := (2 : Int32)) (by decide)  (g := (mkF m 25 #[.val (.ref a1)] [(.long cI.toInt64), (.int (2 : Int32)), (.ref bz1), (.ref bz1)])) rfl rfl (hb hby own_d_prog_14_method_3_code_25)
  have F_26 := F_18.other W25 (Or.inl (Nat.ne_of_lt lt_a1_bz1))
  have F_27 := F_19.other W25 (Or.inl (Nat.ne_of_lt lt_a1_bz1))
  have F_28 := F_20.other W25 (Or.inl (Nat.ne_of_lt lt_a1_bz1))
  have F_29 := F_21.other W25 (Or.inl (Nat.ne_of_lt lt_a1_bz1))
  have F_30 := F_22.other W25 (Or.inl (Nat.ne_of_lt lt_r_bz1))
  have N25 := Fr.snoc X25 N17 g_bz1
  have K_31 : Keep h0 hz25 [] := K_23.wr W25 (Or.inr sz_bz1)
  refine OGo.st st25 ?_
  show OGo p.tables e below _ (T25.setTop (mkF m 26 #[.val (.ref a1)] [(.ref bz1)]))
  refine OGo.st (fun _ k_ => XS.dup X25.here hx rfl (hb hby own_d_prog_14_method_3_code_26) rfl rfl k_) ?_
  show OGo p.tables e below _ (T25.setTop (mkF m 27 #[.val (.ref a1)] [(.ref bz1), (.ref bz1)]))
  refine OGo.st (fun _ k_ => XS.iconst X25.here hx rfl (hb hby own_d_prog_14_method_3_code_27) k_) ?_
  show OGo p.tables e below _ (T25.setTop (mkF m 28 #[.val (.ref a1)] [(.int (3 : Int32)), (.ref bz1), (.ref bz1)]))
  refine OGo.st (fun _ k_ => XS.aloadN X25.here hx rfl (hb hby own_d_prog_14_method_3_code_28) rfl rfl k_) ?_
  show OGo p.tables e below _ (T25.setTop (mkF m 29 #[.val (.ref a1)] [(.ref a1), (.int (3 : Int32)), (.ref bz1), (.ref bz1)]))
  obtain ⟨T32, X32, ez32, st32⟩ := getF X25 hx hZ hown (host := "") (Or.inl (hw _ (List.mem_of_getElem? (i := 54) rfl))) Via.refl ez25 F_29 (g := (mkF m 29 #[.val (.ref a1)] [(.ref a1), (.int (3 : Int32)), (.ref bz1), (.ref bz1)])) rfl rfl (hb hby own_d_prog_14_method_3_code_29)
  refine OGo.st st32 ?_
  show OGo p.tables e below _ (T32.setTop (mkF m 32 #[.val (.ref a1)] [(.ref r), (.int (3 : Int32)), (.ref bz1), (.ref bz1)]))
  obtain ⟨T33, X33, ez33, st33⟩ := getF X32 hx hZ hown (host := "") (Or.inl (hw _ (List.mem_of_getElem? (i := 62) rfl))) Via.refl ez32 F_30 (g := (mkF m 32 #[.val (.ref a1)] [(.ref r), (.int (3 : Int32)), (.ref bz1), (.ref bz1)])) rfl rfl (hb hby own_d_prog_14_method_3_code_32)
  refine OGo.st st33 ?_
  show OGo p.tables e below _ (T33.setTop (mkF m 35 #[.val (.ref a1)] [(.int cd), (.int (3 : Int32)), (.ref bz1), (.ref bz1)]))
  refine OGo.st (fun _ k_ => XS.i2l X33.here hx rfl (hb hby own_d_prog_14_method_3_code_35) rfl k_) ?_
  show OGo p.tables e below _ (T33.setTop (mkF m 36 #[.val (.ref a1)] [(.long cd.toInt64), (.int (3 : Int32)), (.ref bz1), (.ref bz1)]))
  obtain ⟨T34, hz34, X34, ez34, W34, V34, st34⟩ := own_stJ X33 hx hZ ez33 V25 (j := (3 : Int32)) (by decide)  (g := (mkF m 36 #[.val (.ref a1)] [(.long cd.toInt64), (.int (3 : Int32)), (.ref bz1), (.ref bz1)])) rfl rfl (hb hby own_d_prog_14_method_3_code_36)
  have F_35 := F_26.other W34 (Or.inl (Nat.ne_of_lt lt_a1_bz1))
  have F_36 := F_27.other W34 (Or.inl (Nat.ne_of_lt lt_a1_bz1))
  have F_37 := F_28.other W34 (Or.inl (Nat.ne_of_lt lt_a1_bz1))
  have F_38 := F_29.other W34 (Or.inl (Nat.ne_of_lt lt_a1_bz1))
  have F_39 := F_30.other W34 (Or.inl (Nat.ne_of_lt lt_r_bz1))
  have N34 := Fr.snoc X34 N25 g_bz1
  have K_40 : Keep h0 hz34 [] := K_31.wr W34 (Or.inr sz_bz1)
  refine OGo.st st34 ?_
  show OGo p.tables e below _ (T34.setTop (mkF m 37 #[.val (.ref a1)] [(.ref bz1)]))
  refine OGo.fin X34 (v := some (.ref bz1)) (fun h => by rw [Bd.returns] at h; cases h) hlk (fun fs hr => X34.areturnOut hx rfl Bd.returns rfl (hb hby own_d_prog_14_method_3_code_37) hr) ?_ (by decide) (by decide)
  show own_Q_rm12 Z a1 q1 hI cI r cd h0 n0 _ T34.heap _
  rw [ez34]
  exact ⟨_, _, rfl, N34, K_40, g_bz1, sz_bz1, V34.congr (own_FF _ _ _ _)⟩
theorem own_d_prog_14_method_2_code_0 : decode prog_14_method_2_code 0 = .ok (.aload_n 0, 1) := by decide +kernel
theorem own_d_prog_14_method_2_code_1 : decode prog_14_method_2_code 1 = .ok (.iconst 0, 1) := by decide +kernel
theorem own_d_prog_14_method_2_code_2 : decode prog_14_method_2_code 2 = .ok (.laload, 1) := by decide +kernel
theorem own_d_prog_14_method_2_code_3 : decode prog_14_method_2_code 3 = .ok (.aload_n 0, 1) := by decide +kernel
theorem own_d_prog_14_method_2_code_4 : decode prog_14_method_2_code 4 = .ok (.iconst 1, 1) := by decide +kernel
theorem own_d_prog_14_method_2_code_5 : decode prog_14_method_2_code 5 = .ok (.laload, 1) := by decide +kernel
theorem own_d_prog_14_method_2_code_6 : decode prog_14_method_2_code 6 = .ok (.aload_n 0, 1) := by decide +kernel
theorem own_d_prog_14_method_2_code_7 : decode prog_14_method_2_code 7 = .ok (.iconst 2, 1) := by decide +kernel
theorem own_d_prog_14_method_2_code_8 : decode prog_14_method_2_code 8 = .ok (.laload, 1) := by decide +kernel
theorem own_d_prog_14_method_2_code_9 : decode prog_14_method_2_code 9 = .ok (.invokestatic 7, 3) := by decide +kernel
theorem own_d_prog_14_method_2_code_12 : decode prog_14_method_2_code 12 = .ok (.aload_n 0, 1) := by decide +kernel
theorem own_d_prog_14_method_2_code_13 : decode prog_14_method_2_code 13 = .ok (.iconst 3, 1) := by decide +kernel
theorem own_d_prog_14_method_2_code_14 : decode prog_14_method_2_code 14 = .ok (.laload, 1) := by decide +kernel
theorem own_d_prog_14_method_2_code_15 : decode prog_14_method_2_code 15 = .ok (.invokestatic 35, 3) := by decide +kernel
theorem own_pd7 : parseMethodDescriptor "(J)Lcom/example/crivo/crivo/UpdateRule;" = some ⟨[.long], some (.object "com/example/crivo/crivo/UpdateRule")⟩ := by decide +kernel
theorem own_d_prog_14_method_2_code_18 : decode prog_14_method_2_code 18 = .ok (.astore_n 1, 1) := by decide +kernel
theorem own_d_prog_14_method_2_code_19 : decode prog_14_method_2_code 19 = .ok (.aload_n 1, 1) := by decide +kernel
theorem own_d_prog_14_method_2_code_20 : decode prog_14_method_2_code 20 = .ok (.ifnonnull 19, 3) := by decide +kernel
theorem own_d_prog_14_method_2_code_39 : decode prog_14_method_2_code 39 = .ok (.new 8, 3) := by decide +kernel
theorem own_d_prog_14_method_2_code_42 : decode prog_14_method_2_code 42 = .ok (.dup, 1) := by decide +kernel
theorem own_d_prog_14_method_2_code_43 : decode prog_14_method_2_code 43 = .ok (.aload_n 0, 1) := by decide +kernel
theorem own_d_prog_14_method_2_code_44 : decode prog_14_method_2_code 44 = .ok (.iconst 0, 1) := by decide +kernel
theorem own_d_prog_14_method_2_code_45 : decode prog_14_method_2_code 45 = .ok (.laload, 1) := by decide +kernel
theorem own_d_prog_14_method_2_code_46 : decode prog_14_method_2_code 46 = .ok (.aload_n 0, 1) := by decide +kernel
theorem own_d_prog_14_method_2_code_47 : decode prog_14_method_2_code 47 = .ok (.iconst 1, 1) := by decide +kernel
theorem own_d_prog_14_method_2_code_48 : decode prog_14_method_2_code 48 = .ok (.laload, 1) := by decide +kernel
theorem own_d_prog_14_method_2_code_49 : decode prog_14_method_2_code 49 = .ok (.l2i, 1) := by decide +kernel
theorem own_d_prog_14_method_2_code_50 : decode prog_14_method_2_code 50 = .ok (.aload_n 0, 1) := by decide +kernel
theorem own_d_prog_14_method_2_code_51 : decode prog_14_method_2_code 51 = .ok (.iconst 2, 1) := by decide +kernel
theorem own_d_prog_14_method_2_code_52 : decode prog_14_method_2_code 52 = .ok (.laload, 1) := by decide +kernel
theorem own_d_prog_14_method_2_code_53 : decode prog_14_method_2_code 53 = .ok (.l2i, 1) := by decide +kernel
theorem own_d_prog_14_method_2_code_54 : decode prog_14_method_2_code 54 = .ok (.aload_n 1, 1) := by decide +kernel
theorem own_d_prog_14_method_2_code_55 : decode prog_14_method_2_code 55 = .ok (.invokespecial 50, 3) := by decide +kernel
theorem own_pd8 : parseMethodDescriptor "(JIILcom/example/crivo/crivo/UpdateRule;)V" = some ⟨[.long, .int, .int, (.object "com/example/crivo/crivo/UpdateRule")], none⟩ := by decide +kernel
theorem own_d_prog_14_method_2_code_58 : decode prog_14_method_2_code 58 = .ok (.areturn, 1) := by decide +kernel
theorem own_ef_rm13 (m : MethodId) (x0 : Addr) : entryFrame m #[(.ref x0)] 2 = mkF m 0 #[.val (.ref x0), .unset] [] := by first | (simp [entryFrame, mkF, argsToLocals, Value.category]; done) | rfl
def own_Q_rm13 (Z : State) (f : Addr) (kf : ClassId) (q1 : Int64) (hI cI : Int32) (vv : Int64) (va : Addr) (k : ClassId) (pa ca r : Addr) (h0 : Heap) (n0 : Nat) (v : Option Value) (h : Heap) (L : List Loc) : Prop := ∃ y : Addr, v = some (.ref y) ∧ Fr n0 L ∧ Keep h0 h [] ∧ h0.size ≤ y ∧ Exa Z h y "com/example/crivo/crivo/CountingParameters" ∧ Fld Z h y "com/example/crivo/crivo/CountingParameters" "counters" "J" (.long q1) ∧ Fld Z h y "com/example/crivo/crivo/CountingParameters" "hashes" "I" (.int hI) ∧ Fld Z h y "com/example/crivo/crivo/CountingParameters" "counterBits" "I" (.int cI) ∧ Fld Z h y "com/example/crivo/crivo/CountingParameters" "update" "Lcom/example/crivo/crivo/UpdateRule;" (.ref r)
set_option maxRecDepth 65536 in
set_option maxHeartbeats 40000000 in
theorem rm13 (l : Launch) (Z : State) (a0 : Array Value) (hw : ∀ d ∈ tables_1, d.before a0 Z = true) (ws : List Jvm.Cond) (f : Addr) (kf : ClassId) (q1 : Int64) (hI cI : Int32) (vv : Int64) (va : Addr) (k : ClassId) (pa ca r : Addr) (h0 : Heap) (n0 : Nat) (Z0 : n0 ≤ h0.size) (h1 : ¬ cI.toInt64 < (1 : Int64)) (h2 : ¬ (32 : Int64) < cI.toInt64) (h3 : ¬ q1 < (1 : Int64)) (h4 : ¬ ((17179869184 : Int64) / cI.toInt64) < q1) (h5 : cI.toInt64 ≠ 0) (h6 : ¬ hI.toInt64 < (1 : Int64)) (h7 : ¬ (64 : Int64) < hI.toInt64) (hr : own_ft vv pa ca = .ref r) (S_va : Sta Z h0 "com/example/crivo/crivo/UpdateRule" "$VALUES" "[Lcom/example/crivo/crivo/UpdateRule;" (.ref va)) (E_va : Exa Z h0 va "[Lcom/example/crivo/crivo/UpdateRule;") (A_va : Arf Z h0 va k (.object "com/example/crivo/crivo/UpdateRule") 2 (own_P pa ca)) (E_pa : Exa Z h0 pa "com/example/crivo/crivo/UpdateRule") (F_code_pa : Fld Z h0 pa "com/example/crivo/crivo/UpdateRule" "code" "I" (.int (1 : Int32))) (E_ca : Exa Z h0 ca "com/example/crivo/crivo/UpdateRule") (F_code_ca : Fld Z h0 ca "com/example/crivo/crivo/UpdateRule" "code" "I" (.int (2 : Int32))) (E_r : Exa Z h0 r "com/example/crivo/crivo/UpdateRule") (A_f : Arf Z h0 f kf .long 4 (own_F q1 hI.toInt64 cI.toInt64 vv)) :
    OMetS l Z own_EL ([] : List Addr) (⟨"com/example/crivo/crivo/CountingParameters", "fromFile", "([J)Lcom/example/crivo/crivo/CountingParameters;"⟩ : MethodName) prog_14_method_2_code 2 (some (.object "com/example/crivo/crivo/CountingParameters")) ws ({ frames := 4, cells := 17, slots := 267, locals := 3088 } : Room) #[(.ref f)] h0 (own_Q_rm13 Z f kf q1 hI cI vv va k pa ca r h0 n0) := by
  refine MetFree.of_bodySF (plainFor_of_name own_pn1) hisR ?_
  intro p e s m args below meth c s₁ Bd hml0 hP hK
  obtain ⟨rfl, hZ, hh, hCH, hsf⟩ := hP
  have hx := Bd.exec
  have hby := Bd.bytes
  have hml : c.maxLocals = 2 := hml0
  have hown : s.vm.findClass "com/example/crivo/crivo/CountingParameters" = some m.cls := findClass_of_methodNamed Bd.named
  have hnm := (name_of_methodNamed Bd.named Bd.method).1
  have hlk : meth.locks = false := Bd.notSynchronized
  have X0 : Stand p l e ({ frames := 4, cells := 17, slots := 267, locals := 3088 } : Room) (s.setVm s.vm) m #[(.ref f)] below meth c s₁ [] 0 0 := Stand.of_body Bd
  have O0 : OSt Z own_EL s m "com/example/crivo/crivo/CountingParameters" s.vm h0 h0 := ⟨hZ, hown, ⟨h0.size, own_since s _, Nat.le_refl _⟩, CHr.refl hCH⟩
  have hZ := O0.z
  have hown := O0.o
  have e0 : s₁.heap = h0 := by rw [← hh, Bd.state]; rfl
  have N0 := Fr.nil n0
  refine OGo.enter (P := OPostS Z own_EL s (own_Q_rm13 Z f kf q1 hI cI vv va k pa ca r h0 n0) 17 267) (own_ef_rm13 m f) ?_
  show OGo p.tables e below _ (s₁.setTop (mkF m 0 #[.val (.ref f), .unset] []))
  refine OGo.st (fun _ k_ => XS.aloadN X0.here hx rfl (hb hby own_d_prog_14_method_2_code_0) rfl rfl k_) ?_
  show OGo p.tables e below _ (s₁.setTop (mkF m 1 #[.val (.ref f), .unset] [(.ref f)]))
  refine OGo.st (fun _ k_ => XS.iconst X0.here hx rfl (hb hby own_d_prog_14_method_2_code_1) k_) ?_
  show OGo p.tables e below _ (s₁.setTop (mkF m 2 #[.val (.ref f), .unset] [(.int (0 : Int32)), (.ref f)]))
  have qz1 := own_ldJ X0 hx hZ e0 A_f (j := (0 : Int32)) (v := q1) (by decide) rfl (g := (mkF m 2 #[.val (.ref f), .unset] [(.int (0 : Int32)), (.ref f)])) rfl rfl (hb hby own_d_prog_14_method_2_code_2)
  refine OGo.st qz1 ?_
  show OGo p.tables e below _ (s₁.setTop (mkF m 3 #[.val (.ref f), .unset] [(.long q1)]))
  refine OGo.st (fun _ k_ => XS.aloadN X0.here hx rfl (hb hby own_d_prog_14_method_2_code_3) rfl rfl k_) ?_
  show OGo p.tables e below _ (s₁.setTop (mkF m 4 #[.val (.ref f), .unset] [(.ref f), (.long q1)]))
  refine OGo.st (fun _ k_ => XS.iconst X0.here hx rfl (hb hby own_d_prog_14_method_2_code_4) k_) ?_
  show OGo p.tables e below _ (s₁.setTop (mkF m 5 #[.val (.ref f), .unset] [(.int (1 : Int32)), (.ref f), (.long q1)]))
  have qz2 := own_ldJ X0 hx hZ e0 A_f (j := (1 : Int32)) (v := hI.toInt64) (by decide) rfl (g := (mkF m 5 #[.val (.ref f), .unset] [(.int (1 : Int32)), (.ref f), (.long q1)])) rfl rfl (hb hby own_d_prog_14_method_2_code_5)
  refine OGo.st qz2 ?_
  show OGo p.tables e below _ (s₁.setTop (mkF m 6 #[.val (.ref f), .unset] [(.long hI.toInt64), (.long q1)]))
  refine OGo.st (fun _ k_ => XS.aloadN X0.here hx rfl (hb hby own_d_prog_14_method_2_code_6) rfl rfl k_) ?_
  show OGo p.tables e below _ (s₁.setTop (mkF m 7 #[.val (.ref f), .unset] [(.ref f), (.long hI.toInt64), (.long q1)]))
  refine OGo.st (fun _ k_ => XS.iconst X0.here hx rfl (hb hby own_d_prog_14_method_2_code_7) k_) ?_
  show OGo p.tables e below _ (s₁.setTop (mkF m 8 #[.val (.ref f), .unset] [(.int (2 : Int32)), (.ref f), (.long hI.toInt64), (.long q1)]))
  have qz3 := own_ldJ X0 hx hZ e0 A_f (j := (2 : Int32)) (v := cI.toInt64) (by decide) rfl (g := (mkF m 8 #[.val (.ref f), .unset] [(.int (2 : Int32)), (.ref f), (.long hI.toInt64), (.long q1)])) rfl rfl (hb hby own_d_prog_14_method_2_code_8)
  refine OGo.st qz3 ?_
  show OGo p.tables e below _ (s₁.setTop (mkF m 9 #[.val (.ref f), .unset] [(.long cI.toInt64), (.long hI.toInt64), (.long q1)]))
  have hsc4 : ∀ x ∈ ([] : List Addr), x < h0.size ∧ Safe Z own_EL s.vm h0 x := all0
  obtain ⟨_, _, ⟨T4, Lz4, kz4, nz4⟩, -, X4, sn4, gn4, ⟨Lc4, hQ4, lz4, yz4, zz4, cr4⟩, st4⟩ := callSS X0 hx (y := (⟨"com/example/crivo/crivo/CountingParameters", "check", "(JJJ)V"⟩ : MethodName)) hown (mvT hZ (hw _ (List.mem_of_getElem? (i := 19) rfl))) (mvT hZ (hw _ (List.mem_of_getElem? (i := 20) rfl))) (mvT hZ (hw _ (List.mem_of_getElem? (i := 7) rfl))) (mvT hZ (hw _ (List.mem_of_getElem? (i := 21) rfl))) (by decide) (own_backSH (W := 0) (rm3 l Z a0 hw [] q1 hI.toInt64 cI.toInt64 h0 n0 (Nat.le_trans Z0 (Keep.refl h0 []).1) h1 h2 h3 h4 h5 h6 h7) hZ (hw _ (List.mem_of_getElem? (i := 21) rfl)) (hw _ (List.mem_of_getElem? (i := 7) rfl)) (by decide) (by decide) (own_EW hw) O0.r.1 hsc4) (g := (mkF m 9 #[.val (.ref f), .unset] [(.long cI.toInt64), (.long hI.toInt64), (.long q1)])) rfl (by rw [hml]; rfl) (argsL := [(.long q1), (.long hI.toInt64), (.long cI.toInt64)]) (rest := []) (lenOf own_pd3 rfl) rfl (by show 2 * 0 + _ ≤ _; exact Nat.le_of_eq rfl) (hb hby own_d_prog_14_method_2_code_9) (fun _ _ => ⟨rfl, e0, (by decide : 0 + 6 ≤ _), (by decide : 0 + 116 ≤ _)⟩)
  dsimp only [Pt.U, Pt.locs, Pt.cells, Pt.slots] at X4 sn4 gn4 lz4 yz4 zz4 cr4 st4 hQ4
  subst lz4 yz4 zz4
  have O4 := O0.call sn4 e0 gn4 cr4
  have X4 : Stand p l e ({ frames := 4, cells := 17, slots := 267, locals := 3088 } : Room) (s.setVm T4.vm) m #[(.ref f)] below meth c T4 _ _ _ := X4
  have hZ := O4.z
  have hown := O4.o
  obtain ⟨rfl, Nq4, Kq4⟩ := hQ4
  have N4 := Fr.app N0 Nq4
  have Ex_5 := E_va.keep Kq4
  have Af_6 := A_va.keep Kq4 nin0
  have Ex_7 := E_pa.keep Kq4
  have F_8 := F_code_pa.keep Kq4 nin0
  have Ex_9 := E_ca.keep Kq4
  have F_10 := F_code_ca.keep Kq4 nin0
  have Ex_11 := E_r.keep Kq4
  have Af_12 := A_f.keep Kq4 nin0
  have K_13 : Keep h0 T4.heap [] := (Keep.refl h0 []).trans Kq4 all0
  refine OGo.tr st4 ?_
  show OGo p.tables e below _ (T4.setTop (mkF m 12 #[.val (.ref f), .unset] []))
  refine OGo.st (fun _ k_ => XS.aloadN X4.here hx rfl (hb hby own_d_prog_14_method_2_code_12) rfl rfl k_) ?_
  show OGo p.tables e below _ (T4.setTop (mkF m 13 #[.val (.ref f), .unset] [(.ref f)]))
  refine OGo.st (fun _ k_ => XS.iconst X4.here hx rfl (hb hby own_d_prog_14_method_2_code_13) k_) ?_
  show OGo p.tables e below _ (T4.setTop (mkF m 14 #[.val (.ref f), .unset] [(.int (3 : Int32)), (.ref f)]))
  have qz14 := own_ldJ X4 hx hZ rfl Af_12 (j := (3 : Int32)) (v := vv) (by decide) rfl (g := (mkF m 14 #[.val (.ref f), .unset] [(.int (3 : Int32)), (.ref f)])) rfl rfl (hb hby own_d_prog_14_method_2_code_14)
  refine OGo.st qz14 ?_
  show OGo p.tables e below _ (T4.setTop (mkF m 15 #[.val (.ref f), .unset] [(.long vv)]))
  obtain ⟨_, _, ⟨T15, Lz15, kz15, nz15⟩, -, X15, ⟨Lc15, hQ15, lz15, yz15, zz15⟩, st15⟩ := Jvm.LawKit.callS X4 hx (y := (⟨"com/example/crivo/crivo/UpdateRule", "withCode", "(J)Lcom/example/crivo/crivo/UpdateRule;"⟩ : MethodName)) hown (mvT hZ (hw _ (List.mem_of_getElem? (i := 67) rfl))) (mvT hZ (hw _ (List.mem_of_getElem? (i := 68) rfl))) (mvT hZ (hw _ (List.mem_of_getElem? (i := 3) rfl))) (mvT hZ (hw _ (List.mem_of_getElem? (i := 69) rfl))) (by decide) (backOf (W := 0) (rm11 l Z a0 hw [] vv va k pa ca r T4.heap n0 (Nat.le_trans Z0 K_13.1) hr (own_sta_keep S_va K_13) Ex_5 Af_6 Ex_7 F_8 Ex_9 F_10 Ex_11) hZ (hw _ (List.mem_of_getElem? (i := 69) rfl)) (hw _ (List.mem_of_getElem? (i := 3) rfl)) (by decide) (by decide)) (g := (mkF m 15 #[.val (.ref f), .unset] [(.long vv)])) rfl (by rw [hml]; rfl) (argsL := [(.long vv)]) (rest := []) (lenOf own_pd7 rfl) rfl (by show 2 * 0 + _ ≤ _; exact Nat.le_of_eq rfl) (hb hby own_d_prog_14_method_2_code_15) (fun _ _ => ⟨rfl, rfl, (by decide : 6 + 2 ≤ _), (by decide : 116 + 3 ≤ _)⟩)
  dsimp only [Pt.U, Pt.locs, Pt.cells, Pt.slots] at X15 lz15 yz15 zz15 st15 hQ15
  subst lz15 yz15 zz15
  obtain ⟨rfl, Nq15, Kq15⟩ := hQ15
  have N15 := Fr.app N4 Nq15
  have Ex_16 := Ex_5.keep Kq15
  have Af_17 := Af_6.keep Kq15 nin0
  have Ex_18 := Ex_7.keep Kq15
  have F_19 := F_8.keep Kq15 nin0
  have Ex_20 := Ex_9.keep Kq15
  have F_21 := F_10.keep Kq15 nin0
  have Ex_22 := Ex_11.keep Kq15
  have Af_23 := Af_12.keep Kq15 nin0
  have hsk24 : ∀ x ∈ ([] : List Addr), Safe Z own_EL T4.vm T4.heap x := all0
  have O24 := O4.keep Kq15 hsk24
  have K_25 : Keep h0 T15.heap [] := K_13.trans Kq15 all0
  refine OGo.st st15 ?_
  show OGo p.tables e below _ (T15.setTop (mkF m 18 #[.val (.ref f), .unset] [(.ref r)]))
  refine OGo.st (fun _ k_ => XS.astoreN X15.here hx rfl (hb hby own_d_prog_14_method_2_code_18) rfl rfl (l' := #[.val (.ref f), .val (.ref r)]) rfl k_) ?_
  show OGo p.tables e below _ (T15.setTop (mkF m 19 #[.val (.ref f), .val (.ref r)] []))
  refine OGo.st (fun _ k_ => XS.aloadN X15.here hx rfl (hb hby own_d_prog_14_method_2_code_19) rfl rfl k_) ?_
  show OGo p.tables e below _ (T15.setTop (mkF m 20 #[.val (.ref f), .val (.ref r)] [(.ref r)]))
  refine OGo.st (fun _ k_ => XT.nonnullYes X15.here hx rfl (pc0 := 20) (pc' := 39) rfl (hb hby own_d_prog_14_method_2_code_20) rfl rfl (fun q => nomatch q) (by decide) (by decide) k_) ?_
  show OGo p.tables e below _ (T15.setTop (mkF m 39 #[.val (.ref f), .val (.ref r)] []))
  obtain ⟨T26, hz26, X26, ez26, Ez26, Az26, Dz26, -, st26⟩ := newO X15 hx hZ hown (hw _ (List.mem_of_getElem? (i := 101) rfl)) (hw _ (List.mem_of_getElem? (i := 6) rfl)) (hw _ (List.mem_of_getElem? (i := 7) rfl)) rfl (g := (mkF m 39 #[.val (.ref f), .val (.ref r)] [])) rfl (hb hby own_d_prog_14_method_2_code_39) (by decide) (by decide)
  obtain ⟨bz26, g26⟩ : ∃ z, z = T15.heap.size := ⟨_, rfl⟩
  rw [← g26] at Az26 Dz26 st26
  have lt_va_bz26 : @LT.lt Nat instLTNat va bz26 := Nat.lt_of_lt_of_le Ex_16.lt (Nat.le_of_eq g26.symm)
  have lt_pa_bz26 : @LT.lt Nat instLTNat pa bz26 := Nat.lt_of_lt_of_le Ex_18.lt (Nat.le_of_eq g26.symm)
  have lt_ca_bz26 : @LT.lt Nat instLTNat ca bz26 := Nat.lt_of_lt_of_le Ex_20.lt (Nat.le_of_eq g26.symm)
  have lt_r_bz26 : @LT.lt Nat instLTNat r bz26 := Nat.lt_of_lt_of_le Ex_22.lt (Nat.le_of_eq g26.symm)
  have lt_f_bz26 : @LT.lt Nat instLTNat f bz26 := Nat.lt_of_lt_of_le Af_23.lt (Nat.le_of_eq g26.symm)
  have g_bz26 : n0 ≤ bz26 := Nat.le_trans (Nat.le_trans Z0 K_25.1) (Nat.le_of_eq g26.symm)
  have sz_bz26 : h0.size ≤ bz26 := Nat.le_trans K_25.1 (Nat.le_of_eq g26.symm)
  have Ex_27 := Ex_16.ext Ez26
  have Af_28 := Af_17.ext Ez26
  have Ex_29 := Ex_18.ext Ez26
  have F_30 := F_19.ext Ez26
  have Ex_31 := Ex_20.ext Ez26
  have F_32 := F_21.ext Ez26
  have Ex_33 := Ex_22.ext Ez26
  have Af_34 := Af_23.ext Ez26
  have O35 := O24.ext Ez26
  have K_36 : Keep h0 hz26 [] := K_25.ext Ez26
  have Sf37 : Safe Z own_EL T4.vm hz26 bz26 := Safe.ext Ez26 O24.r.1 (Safe.new (Nat.le_of_eq g26.symm))
  have F_counters_26 : Fld Z hz26 bz26 "com/example/crivo/crivo/CountingParameters" "counters" "J" (.long (0 : Int64)) := Dz26 (Or.inr (hw _ (List.mem_of_getElem? (i := 49) rfl))) (ty := .long) (by decide)
  have F_hashes_26 : Fld Z hz26 bz26 "com/example/crivo/crivo/CountingParameters" "hashes" "I" (.int (0 : Int32)) := Dz26 (Or.inr (hw _ (List.mem_of_getElem? (i := 51) rfl))) (ty := .int) (by decide)
  have F_counterBits_26 : Fld Z hz26 bz26 "com/example/crivo/crivo/CountingParameters" "counterBits" "I" (.int (0 : Int32)) := Dz26 (Or.inr (hw _ (List.mem_of_getElem? (i := 53) rfl))) (ty := .int) (by decide)
  have F_update_26 : Fld Z hz26 bz26 "com/example/crivo/crivo/CountingParameters" "update" "Lcom/example/crivo/crivo/UpdateRule;" .null := Dz26 (Or.inr (hw _ (List.mem_of_getElem? (i := 55) rfl))) (ty := (.object "com/example/crivo/crivo/UpdateRule")) (by decide)
  refine OGo.st st26 ?_
  show OGo p.tables e below _ (T26.setTop (mkF m 42 #[.val (.ref f), .val (.ref r)] [(.ref bz26)]))
  refine OGo.st (fun _ k_ => XS.dup X26.here hx rfl (hb hby own_d_prog_14_method_2_code_42) rfl rfl k_) ?_
  show OGo p.tables e below _ (T26.setTop (mkF m 43 #[.val (.ref f), .val (.ref r)] [(.ref bz26), (.ref bz26)]))
  refine OGo.st (fun _ k_ => XS.aloadN X26.here hx rfl (hb hby own_d_prog_14_method_2_code_43) rfl rfl k_) ?_
  show OGo p.tables e below _ (T26.setTop (mkF m 44 #[.val (.ref f), .val (.ref r)] [(.ref f), (.ref bz26), (.ref bz26)]))
  refine OGo.st (fun _ k_ => XS.iconst X26.here hx rfl (hb hby own_d_prog_14_method_2_code_44) k_) ?_
  show OGo p.tables e below _ (T26.setTop (mkF m 45 #[.val (.ref f), .val (.ref r)] [(.int (0 : Int32)), (.ref f), (.ref bz26), (.ref bz26)]))
  have qz38 := own_ldJ X26 hx hZ ez26 Af_34 (j := (0 : Int32)) (v := q1) (by decide) rfl (g := (mkF m 45 #[.val (.ref f), .val (.ref r)] [(.int (0 : Int32)), (.ref f), (.ref bz26), (.ref bz26)])) rfl rfl (hb hby own_d_prog_14_method_2_code_45)
  refine OGo.st qz38 ?_
  show OGo p.tables e below _ (T26.setTop (mkF m 46 #[.val (.ref f), .val (.ref r)] [(.long q1), (.ref bz26), (.ref bz26)]))
  refine OGo.st (fun _ k_ => XS.aloadN X26.here hx rfl (hb hby own_d_prog_14_method_2_code_46) rfl rfl k_) ?_
  show OGo p.tables e below _ (T26.setTop (mkF m 47 #[.val (.ref f), .val (.ref r)] [(.ref f), (.long q1), (.ref bz26), (.ref bz26)]))
  refine OGo.st (fun _ k_ => XS.iconst X26.here hx rfl (hb hby own_d_prog_14_method_2_code_47) k_) ?_
  show OGo p.tables e below _ (T26.setTop (mkF m 48 #[.val (.ref f), .val (.ref r)] [(.int (1 : Int32)), (.ref f), (.long q1), (.ref bz26), (.ref bz26)]))
  have qz39 := own_ldJ X26 hx hZ ez26 Af_34 (j := (1 : Int32)) (v := hI.toInt64) (by decide) rfl (g := (mkF m 48 #[.val (.ref f), .val (.ref r)] [(.int (1 : Int32)), (.ref f), (.long q1), (.ref bz26), (.ref bz26)])) rfl rfl (hb hby own_d_prog_14_method_2_code_48)
  refine OGo.st qz39 ?_
  show OGo p.tables e below _ (T26.setTop (mkF m 49 #[.val (.ref f), .val (.ref r)] [(.long hI.toInt64), (.long q1), (.ref bz26), (.ref bz26)]))
  refine OGo.st (fun _ k_ => XS.l2i X26.here hx rfl (hb hby own_d_prog_14_method_2_code_49) rfl k_) ?_
  show OGo p.tables e below _ (T26.setTop (mkF m 50 #[.val (.ref f), .val (.ref r)] [(.int hI.toInt64.toInt32), (.long q1), (.ref bz26), (.ref bz26)]))
  rw [Int32.toInt32_toInt64 hI]
  show OGo p.tables e below _ (T26.setTop (mkF m 50 #[.val (.ref f), .val (.ref r)] [(.int hI), (.long q1), (.ref bz26), (.ref bz26)]))
  refine OGo.st (fun _ k_ => XS.aloadN X26.here hx rfl (hb hby own_d_prog_14_method_2_code_50) rfl rfl k_) ?_
  show OGo p.tables e below _ (T26.setTop (mkF m 51 #[.val (.ref f), .val (.ref r)] [(.ref f), (.int hI), (.long q1), (.ref bz26), (.ref bz26)]))
  refine OGo.st (fun _ k_ => XS.iconst X26.here hx rfl (hb hby own_d_prog_14_method_2_code_51) k_) ?_
  show OGo p.tables e below _ (T26.setTop (mkF m 52 #[.val (.ref f), .val (.ref r)] [(.int (2 : Int32)), (.ref f), (.int hI), (.long q1), (.ref bz26), (.ref bz26)]))
  have qz40 := own_ldJ X26 hx hZ ez26 Af_34 (j := (2 : Int32)) (v := cI.toInt64) (by decide) rfl (g := (mkF m 52 #[.val (.ref f), .val (.ref r)] [(.int (2 : Int32)), (.ref f), (.int hI), (.long q1), (.ref bz26), (.ref bz26)])) rfl rfl (hb hby own_d_prog_14_method_2_code_52)
  refine OGo.st qz40 ?_
  show OGo p.tables e below _ (T26.setTop (mkF m 53 #[.val (.ref f), .val (.ref r)] [(.long cI.toInt64), (.int hI), (.long q1), (.ref bz26), (.ref bz26)]))
  refine OGo.st (fun _ k_ => XS.l2i X26.here hx rfl (hb hby own_d_prog_14_method_2_code_53) rfl k_) ?_
  show OGo p.tables e below _ (T26.setTop (mkF m 54 #[.val (.ref f), .val (.ref r)] [(.int cI.toInt64.toInt32), (.int hI), (.long q1), (.ref bz26), (.ref bz26)]))
  rw [Int32.toInt32_toInt64 cI]
  show OGo p.tables e below _ (T26.setTop (mkF m 54 #[.val (.ref f), .val (.ref r)] [(.int cI), (.int hI), (.long q1), (.ref bz26), (.ref bz26)]))
  refine OGo.st (fun _ k_ => XS.aloadN X26.here hx rfl (hb hby own_d_prog_14_method_2_code_54) rfl rfl k_) ?_
  show OGo p.tables e below _ (T26.setTop (mkF m 55 #[.val (.ref f), .val (.ref r)] [(.ref r), (.int cI), (.int hI), (.long q1), (.ref bz26), (.ref bz26)]))
  have hsc41 : ∀ x ∈ ([] : List Addr), x < hz26.size ∧ Safe Z own_EL T4.vm hz26 x := all0
  obtain ⟨_, _, ⟨T41, Lz41, kz41, nz41⟩, -, X41, sn41, gn41, ⟨Lc41, hQ41, lz41, yz41, zz41, cr41⟩, st41⟩ := X26.specialBackS hx (y := (⟨"com/example/crivo/crivo/CountingParameters", "<init>", "(JIILcom/example/crivo/crivo/UpdateRule;)V"⟩ : MethodName)) rfl hown (mvT hZ (hw _ (List.mem_of_getElem? (i := 102) rfl))) (mvT hZ (hw _ (List.mem_of_getElem? (i := 9) rfl))) (mvT hZ (hw _ (List.mem_of_getElem? (i := 10) rfl))) (by decide) (own_backSH (W := 1) (rm6 l Z a0 hw [] bz26 q1 hI cI r hz26 n0 (Nat.le_trans Z0 K_36.1) h1 h2 h3 h4 h5 h6 h7 Az26 F_counters_26 F_hashes_26 F_counterBits_26 F_update_26 g_bz26) hZ (hw _ (List.mem_of_getElem? (i := 10) rfl)) (hw _ (List.mem_of_getElem? (i := 7) rfl)) (by decide) (by decide) (own_EW hw) O35.r.1 hsc41) (g := (mkF m 55 #[.val (.ref f), .val (.ref r)] [(.ref r), (.int cI), (.int hI), (.long q1), (.ref bz26), (.ref bz26)])) rfl (by rw [hml]; rfl) (Steps.refl _) (a := bz26) (argsL := [(.long q1), (.int hI), (.int cI), (.ref r)]) (rest := [(.ref bz26)]) (lenOf own_pd8 rfl) rfl (by show 2 * 0 + _ ≤ _; exact Nat.le_of_eq rfl) (hb hby own_d_prog_14_method_2_code_55) (fun _ _ => ⟨rfl, ez26, (by decide : 9 + 8 ≤ _), (by decide : 123 + 144 ≤ _)⟩)
  dsimp only [Pt.U, Pt.locs, Pt.cells, Pt.slots] at X41 sn41 gn41 lz41 yz41 zz41 cr41 st41 hQ41
  subst lz41 yz41 zz41
  have O41 := O35.call sn41 ez26 gn41 cr41
  have X41 : Stand p l e ({ frames := 4, cells := 17, slots := 267, locals := 3088 } : Room) (s.setVm T41.vm) m #[(.ref f)] below meth c T41 _ _ _ := X41
  have hZ := O41.z
  have hown := O41.o
  obtain ⟨rfl, Nq41, Kq41, qz41_0, qz41_1, qz41_2, qz41_3⟩ := hQ41
  have N41 := Fr.app N15 Nq41
  have Ex_42 := Ex_27.keep Kq41
  have Af_43 := Af_28.keep Kq41 (ninS (Nat.ne_of_lt lt_va_bz26) nin0)
  have Ex_44 := Ex_29.keep Kq41
  have F_45 := F_30.keep Kq41 (ninS (Nat.ne_of_lt lt_pa_bz26) nin0)
  have Ex_46 := Ex_31.keep Kq41
  have F_47 := F_32.keep Kq41 (ninS (Nat.ne_of_lt lt_ca_bz26) nin0)
  have Ex_48 := Ex_33.keep Kq41
  have Af_49 := Af_34.keep Kq41 (ninS (Nat.ne_of_lt lt_f_bz26) nin0)
  have Ex_50 := Az26.keep Kq41
  have K_51 : Keep h0 T41.heap [] := K_36.trans Kq41 (allS (Or.inr sz_bz26) all0)
  refine OGo.tr st41 ?_
  show OGo p.tables e below _ (T41.setTop (mkF m 58 #[.val (.ref f), .val (.ref r)] [(.ref bz26)]))
  refine OGo.finS X41 rfl O41 (own_EW hw) hh (v := some (.ref bz26)) (fun h => by rw [Bd.returns] at h; cases h) hlk (fun fs hr => X41.areturnOut hx rfl Bd.returns rfl (hb hby own_d_prog_14_method_2_code_58) hr) ?_ (by decide) (by decide)
  show own_Q_rm13 Z f kf q1 hI cI vv va k pa ca r h0 n0 _ T41.heap _
  skip
  exact ⟨_, rfl, N41, K_51, sz_bz26, Ex_50, qz41_0, qz41_1, qz41_2, qz41_3⟩
theorem own_d_prog_14_method_10_code_0 : decode prog_14_method_10_code 0 = .ok (.aload_n 0, 1) := by decide +kernel
theorem own_d_prog_14_method_10_code_1 : decode prog_14_method_10_code 1 = .ok (.getfield 21, 3) := by decide +kernel
theorem own_d_prog_14_method_10_code_4 : decode prog_14_method_10_code 4 = .ok (.lreturn, 1) := by decide +kernel
theorem own_ef_rm14 (m : MethodId) (x0 : Addr) : entryFrame m #[(.ref x0)] 1 = mkF m 0 #[.val (.ref x0)] [] := by first | (simp [entryFrame, mkF, argsToLocals, Value.category]; done) | rfl
def own_Q_rm14 (Z : State) (a1 : Addr) (x1 : Int64) (h0 : Heap) (n0 : Nat) (v : Option Value) (h : Heap) (L : List Loc) : Prop := v = some (.long x1) ∧ Fr n0 L ∧ h = h0
set_option maxRecDepth 65536 in
set_option maxHeartbeats 40000000 in
theorem rm14 (l : Launch) (Z : State) (a0 : Array Value) (hw : ∀ d ∈ tables_1, d.before a0 Z = true) (ws : List Jvm.Cond) (a1 : Addr) (x1 : Int64) (h0 : Heap) (n0 : Nat) (Z0 : n0 ≤ h0.size) (F_counters_a1 : Fld Z h0 a1 "com/example/crivo/crivo/CountingParameters" "counters" "J" (.long x1)) :
    OMet l Z (⟨"com/example/crivo/crivo/CountingParameters", "counters", "()J"⟩ : MethodName) prog_14_method_10_code 1 (some .long) ws ({ frames := 0, cells := 0, slots := 0, locals := 0 } : Room) #[(.ref a1)] h0 (own_Q_rm14 Z a1 x1 h0 n0) := by
  refine MetFree.of_bodySF (plainFor_of_name own_pn1) hisR ?_
  intro p e s m args below meth c s₁ Bd hml0 hP hK
  obtain ⟨rfl, hZ, hh⟩ := hP
  have hx := Bd.exec
  have hby := Bd.bytes
  have hml : c.maxLocals = 1 := hml0
  have hown : s.vm.findClass "com/example/crivo/crivo/CountingParameters" = some m.cls := findClass_of_methodNamed Bd.named
  have hnm := (name_of_methodNamed Bd.named Bd.method).1
  have hlk : meth.locks = false := Bd.notSynchronized
  have X0 : Stand p l e ({ frames := 0, cells := 0, slots := 0, locals := 0 } : Room) s m #[(.ref a1)] below meth c s₁ [] 0 0 := Stand.of_body Bd
  have e0 : s₁.heap = h0 := by rw [← hh, Bd.state]; rfl
  have N0 := Fr.nil n0
  refine OGo.enter (P := OPost s (own_Q_rm14 Z a1 x1 h0 n0) 0 0) (own_ef_rm14 m a1) ?_
  show OGo p.tables e below _ (s₁.setTop (mkF m 0 #[.val (.ref a1)] []))
  refine OGo.st (fun _ k_ => XS.aloadN X0.here hx rfl (hb hby own_d_prog_14_method_10_code_0) rfl rfl k_) ?_
  show OGo p.tables e below _ (s₁.setTop (mkF m 1 #[.val (.ref a1)] [(.ref a1)]))
  obtain ⟨T1, X1, ez1, st1⟩ := getF X0 hx hZ hown (host := "") (Or.inl (hw _ (List.mem_of_getElem? (i := 48) rfl))) Via.refl e0 F_counters_a1 (g := (mkF m 1 #[.val (.ref a1)] [(.ref a1)])) rfl rfl (hb hby own_d_prog_14_method_10_code_1)
  refine OGo.st st1 ?_
  show OGo p.tables e below _ (T1.setTop (mkF m 4 #[.val (.ref a1)] [(.long x1)]))
  refine OGo.fin X1 (v := some (.long x1)) (fun h => by rw [Bd.returns] at h; cases h) hlk (fun fs hr => X1.lreturnOut hx Bd.returns (hb hby own_d_prog_14_method_10_code_4) hr) ?_ (by decide) (by decide)
  show own_Q_rm14 Z a1 x1 h0 n0 _ T1.heap _
  rw [ez1]
  exact ⟨rfl, N0, rfl⟩
theorem own_d_prog_14_method_11_code_0 : decode prog_14_method_11_code 0 = .ok (.aload_n 0, 1) := by decide +kernel
theorem own_d_prog_14_method_11_code_1 : decode prog_14_method_11_code 1 = .ok (.getfield 25, 3) := by decide +kernel
theorem own_d_prog_14_method_11_code_4 : decode prog_14_method_11_code 4 = .ok (.ireturn, 1) := by decide +kernel
theorem own_ef_rm15 (m : MethodId) (x0 : Addr) : entryFrame m #[(.ref x0)] 1 = mkF m 0 #[.val (.ref x0)] [] := by first | (simp [entryFrame, mkF, argsToLocals, Value.category]; done) | rfl
def own_Q_rm15 (Z : State) (a1 : Addr) (x1 : Int32) (h0 : Heap) (n0 : Nat) (v : Option Value) (h : Heap) (L : List Loc) : Prop := v = some (.int x1) ∧ Fr n0 L ∧ h = h0
set_option maxRecDepth 65536 in
set_option maxHeartbeats 40000000 in
theorem rm15 (l : Launch) (Z : State) (a0 : Array Value) (hw : ∀ d ∈ tables_1, d.before a0 Z = true) (ws : List Jvm.Cond) (a1 : Addr) (x1 : Int32) (h0 : Heap) (n0 : Nat) (Z0 : n0 ≤ h0.size) (F_hashes_a1 : Fld Z h0 a1 "com/example/crivo/crivo/CountingParameters" "hashes" "I" (.int x1)) :
    OMet l Z (⟨"com/example/crivo/crivo/CountingParameters", "hashes", "()I"⟩ : MethodName) prog_14_method_11_code 1 (some .int) ws ({ frames := 0, cells := 0, slots := 0, locals := 0 } : Room) #[(.ref a1)] h0 (own_Q_rm15 Z a1 x1 h0 n0) := by
  refine MetFree.of_bodySF (plainFor_of_name own_pn1) hisR ?_
  intro p e s m args below meth c s₁ Bd hml0 hP hK
  obtain ⟨rfl, hZ, hh⟩ := hP
  have hx := Bd.exec
  have hby := Bd.bytes
  have hml : c.maxLocals = 1 := hml0
  have hown : s.vm.findClass "com/example/crivo/crivo/CountingParameters" = some m.cls := findClass_of_methodNamed Bd.named
  have hnm := (name_of_methodNamed Bd.named Bd.method).1
  have hlk : meth.locks = false := Bd.notSynchronized
  have X0 : Stand p l e ({ frames := 0, cells := 0, slots := 0, locals := 0 } : Room) s m #[(.ref a1)] below meth c s₁ [] 0 0 := Stand.of_body Bd
  have e0 : s₁.heap = h0 := by rw [← hh, Bd.state]; rfl
  have N0 := Fr.nil n0
  refine OGo.enter (P := OPost s (own_Q_rm15 Z a1 x1 h0 n0) 0 0) (own_ef_rm15 m a1) ?_
  show OGo p.tables e below _ (s₁.setTop (mkF m 0 #[.val (.ref a1)] []))
  refine OGo.st (fun _ k_ => XS.aloadN X0.here hx rfl (hb hby own_d_prog_14_method_11_code_0) rfl rfl k_) ?_
  show OGo p.tables e below _ (s₁.setTop (mkF m 1 #[.val (.ref a1)] [(.ref a1)]))
  obtain ⟨T1, X1, ez1, st1⟩ := getF X0 hx hZ hown (host := "") (Or.inl (hw _ (List.mem_of_getElem? (i := 50) rfl))) Via.refl e0 F_hashes_a1 (g := (mkF m 1 #[.val (.ref a1)] [(.ref a1)])) rfl rfl (hb hby own_d_prog_14_method_11_code_1)
  refine OGo.st st1 ?_
  show OGo p.tables e below _ (T1.setTop (mkF m 4 #[.val (.ref a1)] [(.int x1)]))
  refine OGo.fin X1 (v := some (.int x1)) (fun h => by rw [Bd.returns] at h; cases h) hlk (fun fs hr => X1.ireturnOut hx Bd.returns rfl (Or.inl rfl) (hb hby own_d_prog_14_method_11_code_4) hr) ?_ (by decide) (by decide)
  show own_Q_rm15 Z a1 x1 h0 n0 _ T1.heap _
  rw [ez1]
  exact ⟨rfl, N0, rfl⟩
theorem own_d_prog_14_method_12_code_0 : decode prog_14_method_12_code 0 = .ok (.aload_n 0, 1) := by decide +kernel
theorem own_d_prog_14_method_12_code_1 : decode prog_14_method_12_code 1 = .ok (.getfield 29, 3) := by decide +kernel
theorem own_d_prog_14_method_12_code_4 : decode prog_14_method_12_code 4 = .ok (.ireturn, 1) := by decide +kernel
theorem own_ef_rm16 (m : MethodId) (x0 : Addr) : entryFrame m #[(.ref x0)] 1 = mkF m 0 #[.val (.ref x0)] [] := by first | (simp [entryFrame, mkF, argsToLocals, Value.category]; done) | rfl
def own_Q_rm16 (Z : State) (a1 : Addr) (x1 : Int32) (h0 : Heap) (n0 : Nat) (v : Option Value) (h : Heap) (L : List Loc) : Prop := v = some (.int x1) ∧ Fr n0 L ∧ h = h0
set_option maxRecDepth 65536 in
set_option maxHeartbeats 40000000 in
theorem rm16 (l : Launch) (Z : State) (a0 : Array Value) (hw : ∀ d ∈ tables_1, d.before a0 Z = true) (ws : List Jvm.Cond) (a1 : Addr) (x1 : Int32) (h0 : Heap) (n0 : Nat) (Z0 : n0 ≤ h0.size) (F_counterBits_a1 : Fld Z h0 a1 "com/example/crivo/crivo/CountingParameters" "counterBits" "I" (.int x1)) :
    OMet l Z (⟨"com/example/crivo/crivo/CountingParameters", "counterBits", "()I"⟩ : MethodName) prog_14_method_12_code 1 (some .int) ws ({ frames := 0, cells := 0, slots := 0, locals := 0 } : Room) #[(.ref a1)] h0 (own_Q_rm16 Z a1 x1 h0 n0) := by
  refine MetFree.of_bodySF (plainFor_of_name own_pn1) hisR ?_
  intro p e s m args below meth c s₁ Bd hml0 hP hK
  obtain ⟨rfl, hZ, hh⟩ := hP
  have hx := Bd.exec
  have hby := Bd.bytes
  have hml : c.maxLocals = 1 := hml0
  have hown : s.vm.findClass "com/example/crivo/crivo/CountingParameters" = some m.cls := findClass_of_methodNamed Bd.named
  have hnm := (name_of_methodNamed Bd.named Bd.method).1
  have hlk : meth.locks = false := Bd.notSynchronized
  have X0 : Stand p l e ({ frames := 0, cells := 0, slots := 0, locals := 0 } : Room) s m #[(.ref a1)] below meth c s₁ [] 0 0 := Stand.of_body Bd
  have e0 : s₁.heap = h0 := by rw [← hh, Bd.state]; rfl
  have N0 := Fr.nil n0
  refine OGo.enter (P := OPost s (own_Q_rm16 Z a1 x1 h0 n0) 0 0) (own_ef_rm16 m a1) ?_
  show OGo p.tables e below _ (s₁.setTop (mkF m 0 #[.val (.ref a1)] []))
  refine OGo.st (fun _ k_ => XS.aloadN X0.here hx rfl (hb hby own_d_prog_14_method_12_code_0) rfl rfl k_) ?_
  show OGo p.tables e below _ (s₁.setTop (mkF m 1 #[.val (.ref a1)] [(.ref a1)]))
  obtain ⟨T1, X1, ez1, st1⟩ := getF X0 hx hZ hown (host := "") (Or.inl (hw _ (List.mem_of_getElem? (i := 52) rfl))) Via.refl e0 F_counterBits_a1 (g := (mkF m 1 #[.val (.ref a1)] [(.ref a1)])) rfl rfl (hb hby own_d_prog_14_method_12_code_1)
  refine OGo.st st1 ?_
  show OGo p.tables e below _ (T1.setTop (mkF m 4 #[.val (.ref a1)] [(.int x1)]))
  refine OGo.fin X1 (v := some (.int x1)) (fun h => by rw [Bd.returns] at h; cases h) hlk (fun fs hr => X1.ireturnOut hx Bd.returns rfl (Or.inl rfl) (hb hby own_d_prog_14_method_12_code_4) hr) ?_ (by decide) (by decide)
  show own_Q_rm16 Z a1 x1 h0 n0 _ T1.heap _
  rw [ez1]
  exact ⟨rfl, N0, rfl⟩
theorem own_d_prog_14_method_13_code_0 : decode prog_14_method_13_code 0 = .ok (.aload_n 0, 1) := by decide +kernel
theorem own_d_prog_14_method_13_code_1 : decode prog_14_method_13_code 1 = .ok (.getfield 32, 3) := by decide +kernel
theorem own_d_prog_14_method_13_code_4 : decode prog_14_method_13_code 4 = .ok (.areturn, 1) := by decide +kernel
theorem own_ef_rm17 (m : MethodId) (x0 : Addr) : entryFrame m #[(.ref x0)] 1 = mkF m 0 #[.val (.ref x0)] [] := by first | (simp [entryFrame, mkF, argsToLocals, Value.category]; done) | rfl
def own_Q_rm17 (Z : State) (a1 : Addr) (x1 : Addr) (h0 : Heap) (n0 : Nat) (v : Option Value) (h : Heap) (L : List Loc) : Prop := v = some (.ref x1) ∧ Fr n0 L ∧ h = h0
set_option maxRecDepth 65536 in
set_option maxHeartbeats 40000000 in
theorem rm17 (l : Launch) (Z : State) (a0 : Array Value) (hw : ∀ d ∈ tables_1, d.before a0 Z = true) (ws : List Jvm.Cond) (a1 : Addr) (x1 : Addr) (h0 : Heap) (n0 : Nat) (Z0 : n0 ≤ h0.size) (F_update_a1 : Fld Z h0 a1 "com/example/crivo/crivo/CountingParameters" "update" "Lcom/example/crivo/crivo/UpdateRule;" (.ref x1)) :
    OMet l Z (⟨"com/example/crivo/crivo/CountingParameters", "update", "()Lcom/example/crivo/crivo/UpdateRule;"⟩ : MethodName) prog_14_method_13_code 1 (some (.object "com/example/crivo/crivo/UpdateRule")) ws ({ frames := 0, cells := 0, slots := 0, locals := 0 } : Room) #[(.ref a1)] h0 (own_Q_rm17 Z a1 x1 h0 n0) := by
  refine MetFree.of_bodySF (plainFor_of_name own_pn1) hisR ?_
  intro p e s m args below meth c s₁ Bd hml0 hP hK
  obtain ⟨rfl, hZ, hh⟩ := hP
  have hx := Bd.exec
  have hby := Bd.bytes
  have hml : c.maxLocals = 1 := hml0
  have hown : s.vm.findClass "com/example/crivo/crivo/CountingParameters" = some m.cls := findClass_of_methodNamed Bd.named
  have hnm := (name_of_methodNamed Bd.named Bd.method).1
  have hlk : meth.locks = false := Bd.notSynchronized
  have X0 : Stand p l e ({ frames := 0, cells := 0, slots := 0, locals := 0 } : Room) s m #[(.ref a1)] below meth c s₁ [] 0 0 := Stand.of_body Bd
  have e0 : s₁.heap = h0 := by rw [← hh, Bd.state]; rfl
  have N0 := Fr.nil n0
  refine OGo.enter (P := OPost s (own_Q_rm17 Z a1 x1 h0 n0) 0 0) (own_ef_rm17 m a1) ?_
  show OGo p.tables e below _ (s₁.setTop (mkF m 0 #[.val (.ref a1)] []))
  refine OGo.st (fun _ k_ => XS.aloadN X0.here hx rfl (hb hby own_d_prog_14_method_13_code_0) rfl rfl k_) ?_
  show OGo p.tables e below _ (s₁.setTop (mkF m 1 #[.val (.ref a1)] [(.ref a1)]))
  obtain ⟨T1, X1, ez1, st1⟩ := getF X0 hx hZ hown (host := "") (Or.inl (hw _ (List.mem_of_getElem? (i := 54) rfl))) Via.refl e0 F_update_a1 (g := (mkF m 1 #[.val (.ref a1)] [(.ref a1)])) rfl rfl (hb hby own_d_prog_14_method_13_code_1)
  refine OGo.st st1 ?_
  show OGo p.tables e below _ (T1.setTop (mkF m 4 #[.val (.ref a1)] [(.ref x1)]))
  refine OGo.fin X1 (v := some (.ref x1)) (fun h => by rw [Bd.returns] at h; cases h) hlk (fun fs hr => X1.areturnOut hx rfl Bd.returns rfl (hb hby own_d_prog_14_method_13_code_4) hr) ?_ (by decide) (by decide)
  show own_Q_rm17 Z a1 x1 h0 n0 _ T1.heap _
  rw [ez1]
  exact ⟨rfl, N0, rfl⟩
theorem own_msk (x : Int64) : 0 ≤ (x &&& (9223372036854775807 : Int64)).toInt := by
  have l : (x &&& (9223372036854775807 : Int64)).toBitVec.toNat ≤ 9223372036854775807 := by rw [Int64.toBitVec_and, BitVec.toNat_and]; exact Nat.and_le_right
  have e : (x &&& (9223372036854775807 : Int64)).toInt = (x &&& (9223372036854775807 : Int64)).toBitVec.toNat := by show (x &&& (9223372036854775807 : Int64)).toBitVec.toInt = _; exact BitVec.toInt_eq_toNat_of_lt (by omega)
  rw [e]; exact Int.natCast_nonneg _
theorem own_remG (x d : Int64) (h : 0 ≤ x.toInt) (hd : 0 < d.toInt) : 0 ≤ (x - (x / d) * d).toInt ∧ (x - (x / d) * d).toInt < d.toInt := by
  have l := x.toInt_lt
  have p1 : 0 ≤ x.toInt / d.toInt := Int.ediv_nonneg h (Int.le_of_lt hd)
  have p2 : x.toInt / d.toInt * d.toInt ≤ x.toInt := Int.ediv_mul_le _ (Int.ne_of_gt hd)
  have p3 : 0 ≤ x.toInt / d.toInt * d.toInt := Int.mul_nonneg p1 (Int.le_of_lt hd)
  have p4 : x.toInt / d.toInt ≤ x.toInt := Int.ediv_le_self _ h
  have p5 : x.toInt % d.toInt = x.toInt - x.toInt / d.toInt * d.toInt := by have := Int.emod_def x.toInt d.toInt; rw [Int.mul_comm] at this; exact this
  have p6 := Int.emod_nonneg x.toInt (Int.ne_of_gt hd)
  have p7 := Int.emod_lt_of_pos x.toInt hd
  have e1 : (x / d).toInt = x.toInt / d.toInt := by
    rw [Int64.toInt_div, Int.tdiv_eq_ediv_of_nonneg h]
    exact XT.bmod64 (by unfold XT.fits64; omega)
  have e2 : ((x / d) * d).toInt = x.toInt / d.toInt * d.toInt := by
    rw [XT.mul64 (by rw [e1]; unfold XT.fits64; omega), e1]
  rw [XT.sub64 (by rw [e2]; unfold XT.fits64; omega), e2]; omega
theorem own_ci (p c : Int32) (n : Int32) (N : Nat) (hN : n.toBitVec.toNat = N) (hs : N ≤ 1000) (h : c = ((p &&& n) + (1 : Int32))) : 1 ≤ c.toInt64.toInt ∧ c.toInt64.toInt ≤ N + 1 := by
  have l : (p &&& n).toBitVec.toNat ≤ N := by rw [Int32.toBitVec_and, BitVec.toNat_and, hN]; exact Nat.and_le_right
  have e : (p &&& n).toInt = (p &&& n).toBitVec.toNat := by show (p &&& n).toBitVec.toInt = _; exact BitVec.toInt_eq_toNat_of_lt (by omega)
  have e2 : c.toInt = (p &&& n).toInt + 1 := by rw [h]; exact XT.add32 (y := 1) (by show XT.fits32 (_ + 1); unfold XT.fits32; omega)
  rw [Int32.toInt_toInt64, e2, e]; omega
theorem own_cOK {p c : Int32} (h : c = ((p &&& (31 : Int32)) + (1 : Int32))) : (¬ c.toInt64 < (1 : Int64)) ∧ (¬ (32 : Int64) < c.toInt64) ∧ c.toInt64 ≠ 0 ∧ 1 ≤ c.toInt64.toInt ∧ c.toInt64.toInt ≤ 32 := by
  have r := own_ci p c 31 31 rfl (by decide) h
  refine ⟨?_, ?_, ?_, r.1, r.2⟩
  · rw [Int64.lt_iff_toInt_lt]; show ¬ _ < (1 : Int); omega
  · rw [Int64.lt_iff_toInt_lt]; show ¬ (32 : Int) < _; omega
  · intro q; rw [q] at r; exact absurd r.1 (by decide)
theorem own_hOK {p c : Int32} (h : c = ((p &&& (63 : Int32)) + (1 : Int32))) : (¬ c.toInt64 < (1 : Int64)) ∧ (¬ (64 : Int64) < c.toInt64) := by
  have r := own_ci p c 63 63 rfl (by decide) h
  constructor
  · rw [Int64.lt_iff_toInt_lt]; show ¬ _ < (1 : Int); omega
  · rw [Int64.lt_iff_toInt_lt]; show ¬ (64 : Int) < _; omega
theorem own_dOK {c : Int64} (h1 : 1 ≤ c.toInt) (h2 : c.toInt ≤ 32) : 0 < ((17179869184 : Int64) / c).toInt ∧ ((17179869184 : Int64) / c).toInt ≤ 17179869184 := by
  have k : (17179869184 : Int64).toInt = 17179869184 := by decide
  have e : ((17179869184 : Int64) / c).toInt = 17179869184 / c.toInt := by
    rw [Int64.toInt_div, k, Int.tdiv_eq_ediv_of_nonneg (by decide)]
    have a := Int.ediv_le_self c.toInt (a := 17179869184) (by decide)
    have b := Int.ediv_nonneg (a := 17179869184) (b := c.toInt) (by decide) (by omega)
    exact XT.bmod64 (by unfold XT.fits64; omega)
  have a := Int.ediv_le_self c.toInt (a := 17179869184) (by decide)
  have b : 1 ≤ 17179869184 / c.toInt := (Int.le_ediv_iff_mul_le (by omega)).mpr (by omega)
  rw [e]; omega
theorem own_dnz {c : Int64} (h1 : 1 ≤ c.toInt) (h2 : c.toInt ≤ 32) : (17179869184 : Int64) / c ≠ 0 := fun q => by have r := own_dOK h1 h2; rw [q] at r; exact absurd r.1 (by decide)
theorem own_qOK {m q c : Int64} (h1 : 1 ≤ c.toInt) (h2 : c.toInt ≤ 32) (h : q = ((1 : Int64) + ((m &&& (9223372036854775807 : Int64)) - ((m &&& (9223372036854775807 : Int64)) / ((17179869184 : Int64) / c)) * ((17179869184 : Int64) / c)))) : (¬ q < (1 : Int64)) ∧ ¬ ((17179869184 : Int64) / c) < q := by
  have r := own_dOK h1 h2
  have t := own_remG _ _ (own_msk m) r.1
  generalize (17179869184 : Int64) / c = d at *
  generalize (m &&& (9223372036854775807 : Int64)) - ((m &&& (9223372036854775807 : Int64)) / d) * d = y at *
  have e : q.toInt = 1 + y.toInt := by rw [h]; exact XT.add64 (x := 1) (by show XT.fits64 (1 + _); unfold XT.fits64; omega)
  rw [Int64.lt_iff_toInt_lt, Int64.lt_iff_toInt_lt, e]
  exact ⟨by show ¬ _ < (1 : Int); omega, by omega⟩

theorem own_pd9 : parseMethodDescriptor "()[J" = some ⟨[], some (.array .long)⟩ := by decide +kernel
theorem own_pd10 : parseMethodDescriptor "([J)Lcom/example/crivo/crivo/CountingParameters;" = some ⟨[(.array .long)], some (.object "com/example/crivo/crivo/CountingParameters")⟩ := by decide +kernel
theorem own_pd11 : parseMethodDescriptor "()J" = some ⟨[], some .long⟩ := by decide +kernel
theorem own_pd12 : parseMethodDescriptor "()I" = some ⟨[], some .int⟩ := by decide +kernel
theorem own_pd13 : parseMethodDescriptor "()Lcom/example/crivo/crivo/UpdateRule;" = some ⟨[], some (.object "com/example/crivo/crivo/UpdateRule")⟩ := by decide +kernel
theorem own_pn6 : plainName "com/example/crivo/crivo/CountingParametersToFilePinLaw" = true := by first | (simp [plainName, overriddenIn]; done) | decide +kernel
theorem own_ef_rm0 (m : MethodId) (x0 : Int64) (x1 : Int32) (x2 : Int32) (x3 : Int32) : entryFrame m #[(.long x0), (.int x1), (.int x2), (.int x3)] maxLocals = mkF m 0 #[.val (.long x0), .second, .val (.int x1), .val (.int x2), .val (.int x3), .unset, .unset, .unset, .unset, .unset, .unset, .unset, .unset, .unset, .unset, .unset, .unset, .unset, .unset] [] := by first | (simp [entryFrame, mkF, argsToLocals, Value.category, maxLocals]; done) | rfl
def own_Q_rm0 (Z : State) (q1 : Int64) (p2 p3 p4 : Int32) (va : Addr) (k : ClassId) (pa ca : Addr) (h0 : Heap) (n0 : Nat) (v : Option Value) (h : Heap) (L : List Loc) : Prop := v = some (.int 1) ∧ Fr n0 L
set_option maxRecDepth 65536 in
set_option maxHeartbeats 40000000 in
theorem rm0 (l : Launch) (Z : State) (a0 : Array Value) (hw : ∀ d ∈ tables_1, d.before a0 Z = true) (ws : List Jvm.Cond) (q1 : Int64) (p2 p3 p4 : Int32) (va : Addr) (k : ClassId) (pa ca : Addr) (h0 : Heap) (n0 : Nat) (Z0 : n0 ≤ h0.size) (S_va : Sta Z h0 "com/example/crivo/crivo/UpdateRule" "$VALUES" "[Lcom/example/crivo/crivo/UpdateRule;" (.ref va)) (E_va : Exa Z h0 va "[Lcom/example/crivo/crivo/UpdateRule;") (A_va : Arf Z h0 va k (.object "com/example/crivo/crivo/UpdateRule") 2 (own_P pa ca)) (E_pa : Exa Z h0 pa "com/example/crivo/crivo/UpdateRule") (F_code_pa : Fld Z h0 pa "com/example/crivo/crivo/UpdateRule" "code" "I" (.int (1 : Int32))) (E_ca : Exa Z h0 ca "com/example/crivo/crivo/UpdateRule") (F_code_ca : Fld Z h0 ca "com/example/crivo/crivo/UpdateRule" "code" "I" (.int (2 : Int32))) (S_pa : Sta Z h0 "com/example/crivo/crivo/UpdateRule" "PLAIN" "Lcom/example/crivo/crivo/UpdateRule;" (.ref pa)) (S_ca : Sta Z h0 "com/example/crivo/crivo/UpdateRule" "CONSERVATIVE" "Lcom/example/crivo/crivo/UpdateRule;" (.ref ca)) :
    OMetS l Z own_EL ([] : List Addr) x code maxLocals ret ws room_1 #[(.long q1), (.int p2), (.int p3), (.int p4)] h0 (own_Q_rm0 Z q1 p2 p3 p4 va k pa ca h0 n0) := by
  refine MetFree.of_bodySF (plainFor_of_name own_pn6) hisR ?_
  intro p e s m args below meth c s₁ Bd hml0 hP hK
  obtain ⟨rfl, hZ, hh, hCH, hsf⟩ := hP
  have hx := Bd.exec
  have hby := Bd.bytes
  have hml : c.maxLocals = 19 := hml0
  have hown : s.vm.findClass "com/example/crivo/crivo/CountingParametersToFilePinLaw" = some m.cls := findClass_of_methodNamed Bd.named
  have hnm := (name_of_methodNamed Bd.named Bd.method).1
  have hlk : meth.locks = false := Bd.notSynchronized
  have X0 : Stand p l e room_1 (s.setVm s.vm) m #[(.long q1), (.int p2), (.int p3), (.int p4)] below meth c s₁ [] 0 0 := Stand.of_body Bd
  have O0 : OSt Z own_EL s m "com/example/crivo/crivo/CountingParametersToFilePinLaw" s.vm h0 h0 := ⟨hZ, hown, ⟨h0.size, own_since s _, Nat.le_refl _⟩, CHr.refl hCH⟩
  have hZ := O0.z
  have hown := O0.o
  have e0 : s₁.heap = h0 := by rw [← hh, Bd.state]; rfl
  have N0 := Fr.nil n0
  refine OGo.enter (P := OPostS Z own_EL s (own_Q_rm0 Z q1 p2 p3 p4 va k pa ca h0 n0) room_1.cells room_1.slots) (own_ef_rm0 m q1 p2 p3 p4) ?_
  show OGo p.tables e below _ (s₁.setTop (mkF m 0 #[.val (.long q1), .second, .val (.int p2), .val (.int p3), .val (.int p4), .unset, .unset, .unset, .unset, .unset, .unset, .unset, .unset, .unset, .unset, .unset, .unset, .unset, .unset] []))
  refine OGo.st (fun _ k_ => XS.iloadN X0.here hx rfl (hb hby at_0) rfl k_) ?_
  show OGo p.tables e below _ (s₁.setTop (mkF m 1 #[.val (.long q1), .second, .val (.int p2), .val (.int p3), .val (.int p4), .unset, .unset, .unset, .unset, .unset, .unset, .unset, .unset, .unset, .unset, .unset, .unset, .unset, .unset] [(.int p3)]))
  refine OGo.st (fun _ k_ => XS.bipush X0.here hx rfl (hb hby at_1) k_) ?_
  show OGo p.tables e below _ (s₁.setTop (mkF m 3 #[.val (.long q1), .second, .val (.int p2), .val (.int p3), .val (.int p4), .unset, .unset, .unset, .unset, .unset, .unset, .unset, .unset, .unset, .unset, .unset, .unset, .unset, .unset] [(.int (31 : Int32)), (.int p3)]))
  refine OGo.st (fun _ k_ => XS.iand X0.here hx rfl (hb hby at_3) rfl k_) ?_
  show OGo p.tables e below _ (s₁.setTop (mkF m 4 #[.val (.long q1), .second, .val (.int p2), .val (.int p3), .val (.int p4), .unset, .unset, .unset, .unset, .unset, .unset, .unset, .unset, .unset, .unset, .unset, .unset, .unset, .unset] [(.int (p3 &&& (31 : Int32)))]))
  refine OGo.st (fun _ k_ => XS.iconst X0.here hx rfl (hb hby at_4) k_) ?_
  show OGo p.tables e below _ (s₁.setTop (mkF m 5 #[.val (.long q1), .second, .val (.int p2), .val (.int p3), .val (.int p4), .unset, .unset, .unset, .unset, .unset, .unset, .unset, .unset, .unset, .unset, .unset, .unset, .unset, .unset] [(.int (1 : Int32)), (.int (p3 &&& (31 : Int32)))]))
  refine OGo.st (fun _ k_ => XS.iadd X0.here hx rfl (hb hby at_5) rfl k_) ?_
  show OGo p.tables e below _ (s₁.setTop (mkF m 6 #[.val (.long q1), .second, .val (.int p2), .val (.int p3), .val (.int p4), .unset, .unset, .unset, .unset, .unset, .unset, .unset, .unset, .unset, .unset, .unset, .unset, .unset, .unset] [(.int ((p3 &&& (31 : Int32)) + (1 : Int32)))]))
  obtain ⟨cI, hcI⟩ : ∃ z : Int32, z = ((p3 &&& (31 : Int32)) + (1 : Int32)) := ⟨_, rfl⟩
  rw [← hcI]
  have hcI_ := own_cOK hcI
  show OGo p.tables e below _ (s₁.setTop (mkF m 6 #[.val (.long q1), .second, .val (.int p2), .val (.int p3), .val (.int p4), .unset, .unset, .unset, .unset, .unset, .unset, .unset, .unset, .unset, .unset, .unset, .unset, .unset, .unset] [(.int cI)]))
  refine OGo.st (fun _ k_ => XS.istore X0.here hx rfl (hb hby at_6) rfl (l' := #[.val (.long q1), .second, .val (.int p2), .val (.int p3), .val (.int p4), .val (.int cI), .unset, .unset, .unset, .unset, .unset, .unset, .unset, .unset, .unset, .unset, .unset, .unset, .unset]) rfl k_) ?_
  show OGo p.tables e below _ (s₁.setTop (mkF m 8 #[.val (.long q1), .second, .val (.int p2), .val (.int p3), .val (.int p4), .val (.int cI), .unset, .unset, .unset, .unset, .unset, .unset, .unset, .unset, .unset, .unset, .unset, .unset, .unset] []))
  refine OGo.st (fun _ k_ => XS.iloadN X0.here hx rfl (hb hby at_8) rfl k_) ?_
  show OGo p.tables e below _ (s₁.setTop (mkF m 9 #[.val (.long q1), .second, .val (.int p2), .val (.int p3), .val (.int p4), .val (.int cI), .unset, .unset, .unset, .unset, .unset, .unset, .unset, .unset, .unset, .unset, .unset, .unset, .unset] [(.int p2)]))
  refine OGo.st (fun _ k_ => XS.bipush X0.here hx rfl (hb hby at_9) k_) ?_
  show OGo p.tables e below _ (s₁.setTop (mkF m 11 #[.val (.long q1), .second, .val (.int p2), .val (.int p3), .val (.int p4), .val (.int cI), .unset, .unset, .unset, .unset, .unset, .unset, .unset, .unset, .unset, .unset, .unset, .unset, .unset] [(.int (63 : Int32)), (.int p2)]))
  refine OGo.st (fun _ k_ => XS.iand X0.here hx rfl (hb hby at_11) rfl k_) ?_
  show OGo p.tables e below _ (s₁.setTop (mkF m 12 #[.val (.long q1), .second, .val (.int p2), .val (.int p3), .val (.int p4), .val (.int cI), .unset, .unset, .unset, .unset, .unset, .unset, .unset, .unset, .unset, .unset, .unset, .unset, .unset] [(.int (p2 &&& (63 : Int32)))]))
  refine OGo.st (fun _ k_ => XS.iconst X0.here hx rfl (hb hby at_12) k_) ?_
  show OGo p.tables e below _ (s₁.setTop (mkF m 13 #[.val (.long q1), .second, .val (.int p2), .val (.int p3), .val (.int p4), .val (.int cI), .unset, .unset, .unset, .unset, .unset, .unset, .unset, .unset, .unset, .unset, .unset, .unset, .unset] [(.int (1 : Int32)), (.int (p2 &&& (63 : Int32)))]))
  refine OGo.st (fun _ k_ => XS.iadd X0.here hx rfl (hb hby at_13) rfl k_) ?_
  show OGo p.tables e below _ (s₁.setTop (mkF m 14 #[.val (.long q1), .second, .val (.int p2), .val (.int p3), .val (.int p4), .val (.int cI), .unset, .unset, .unset, .unset, .unset, .unset, .unset, .unset, .unset, .unset, .unset, .unset, .unset] [(.int ((p2 &&& (63 : Int32)) + (1 : Int32)))]))
  obtain ⟨hI, hhI⟩ : ∃ z : Int32, z = ((p2 &&& (63 : Int32)) + (1 : Int32)) := ⟨_, rfl⟩
  rw [← hhI]
  have hhI_ := own_hOK hhI
  show OGo p.tables e below _ (s₁.setTop (mkF m 14 #[.val (.long q1), .second, .val (.int p2), .val (.int p3), .val (.int p4), .val (.int cI), .unset, .unset, .unset, .unset, .unset, .unset, .unset, .unset, .unset, .unset, .unset, .unset, .unset] [(.int hI)]))
  refine OGo.st (fun _ k_ => XS.istore X0.here hx rfl (hb hby at_14) rfl (l' := #[.val (.long q1), .second, .val (.int p2), .val (.int p3), .val (.int p4), .val (.int cI), .val (.int hI), .unset, .unset, .unset, .unset, .unset, .unset, .unset, .unset, .unset, .unset, .unset, .unset]) rfl k_) ?_
  show OGo p.tables e below _ (s₁.setTop (mkF m 16 #[.val (.long q1), .second, .val (.int p2), .val (.int p3), .val (.int p4), .val (.int cI), .val (.int hI), .unset, .unset, .unset, .unset, .unset, .unset, .unset, .unset, .unset, .unset, .unset, .unset] []))
  refine OGo.st (fun _ k_ => XS.lconst X0.here hx rfl (hb hby at_16) k_) ?_
  show OGo p.tables e below _ (s₁.setTop (mkF m 17 #[.val (.long q1), .second, .val (.int p2), .val (.int p3), .val (.int p4), .val (.int cI), .val (.int hI), .unset, .unset, .unset, .unset, .unset, .unset, .unset, .unset, .unset, .unset, .unset, .unset] [(.long (1 : Int64))]))
  refine OGo.st (fun _ k_ => XS.lloadN X0.here hx rfl (hb hby at_17) rfl k_) ?_
  show OGo p.tables e below _ (s₁.setTop (mkF m 18 #[.val (.long q1), .second, .val (.int p2), .val (.int p3), .val (.int p4), .val (.int cI), .val (.int hI), .unset, .unset, .unset, .unset, .unset, .unset, .unset, .unset, .unset, .unset, .unset, .unset] [(.long q1), (.long (1 : Int64))]))
  refine OGo.st (fun _ k_ => X0.ldc2J hx hown (mvT hZ (hw _ (List.mem_of_getElem? (i := 0) rfl))) rfl (hb hby at_18) k_) ?_
  show OGo p.tables e below _ (s₁.setTop (mkF m 21 #[.val (.long q1), .second, .val (.int p2), .val (.int p3), .val (.int p4), .val (.int cI), .val (.int hI), .unset, .unset, .unset, .unset, .unset, .unset, .unset, .unset, .unset, .unset, .unset, .unset] [(.long (9223372036854775807 : Int64)), (.long q1), (.long (1 : Int64))]))
  refine OGo.st (fun _ k_ => XS.land X0.here hx rfl (hb hby at_21) rfl k_) ?_
  show OGo p.tables e below _ (s₁.setTop (mkF m 22 #[.val (.long q1), .second, .val (.int p2), .val (.int p3), .val (.int p4), .val (.int cI), .val (.int hI), .unset, .unset, .unset, .unset, .unset, .unset, .unset, .unset, .unset, .unset, .unset, .unset] [(.long (q1 &&& (9223372036854775807 : Int64))), (.long (1 : Int64))]))
  refine OGo.st (fun _ k_ => X0.ldc2J hx hown (mvT hZ (hw _ (List.mem_of_getElem? (i := 1) rfl))) rfl (hb hby at_22) k_) ?_
  show OGo p.tables e below _ (s₁.setTop (mkF m 25 #[.val (.long q1), .second, .val (.int p2), .val (.int p3), .val (.int p4), .val (.int cI), .val (.int hI), .unset, .unset, .unset, .unset, .unset, .unset, .unset, .unset, .unset, .unset, .unset, .unset] [(.long (17179869184 : Int64)), (.long (q1 &&& (9223372036854775807 : Int64))), (.long (1 : Int64))]))
  refine OGo.st (fun _ k_ => XS.iload X0.here hx rfl (hb hby at_25) rfl k_) ?_
  show OGo p.tables e below _ (s₁.setTop (mkF m 27 #[.val (.long q1), .second, .val (.int p2), .val (.int p3), .val (.int p4), .val (.int cI), .val (.int hI), .unset, .unset, .unset, .unset, .unset, .unset, .unset, .unset, .unset, .unset, .unset, .unset] [(.int cI), (.long (17179869184 : Int64)), (.long (q1 &&& (9223372036854775807 : Int64))), (.long (1 : Int64))]))
  refine OGo.st (fun _ k_ => XS.i2l X0.here hx rfl (hb hby at_27) rfl k_) ?_
  show OGo p.tables e below _ (s₁.setTop (mkF m 28 #[.val (.long q1), .second, .val (.int p2), .val (.int p3), .val (.int p4), .val (.int cI), .val (.int hI), .unset, .unset, .unset, .unset, .unset, .unset, .unset, .unset, .unset, .unset, .unset, .unset] [(.long cI.toInt64), (.long (17179869184 : Int64)), (.long (q1 &&& (9223372036854775807 : Int64))), (.long (1 : Int64))]))
  refine OGo.st (fun _ k_ => XS.ldiv X0.here hx rfl (hb hby at_28) rfl hcI_.2.2.1 k_) ?_
  show OGo p.tables e below _ (s₁.setTop (mkF m 29 #[.val (.long q1), .second, .val (.int p2), .val (.int p3), .val (.int p4), .val (.int cI), .val (.int hI), .unset, .unset, .unset, .unset, .unset, .unset, .unset, .unset, .unset, .unset, .unset, .unset] [(.long ((17179869184 : Int64) / cI.toInt64)), (.long (q1 &&& (9223372036854775807 : Int64))), (.long (1 : Int64))]))
  refine OGo.st (fun _ k_ => XS.lrem X0.here hx rfl (hb hby at_29) rfl (own_dnz hcI_.2.2.2.1 hcI_.2.2.2.2) k_) ?_
  show OGo p.tables e below _ (s₁.setTop (mkF m 30 #[.val (.long q1), .second, .val (.int p2), .val (.int p3), .val (.int p4), .val (.int cI), .val (.int hI), .unset, .unset, .unset, .unset, .unset, .unset, .unset, .unset, .unset, .unset, .unset, .unset] [(.long ((q1 &&& (9223372036854775807 : Int64)) - ((q1 &&& (9223372036854775807 : Int64)) / ((17179869184 : Int64) / cI.toInt64)) * ((17179869184 : Int64) / cI.toInt64))), (.long (1 : Int64))]))
  refine OGo.st (fun _ k_ => XS.ladd X0.here hx rfl (hb hby at_30) rfl k_) ?_
  show OGo p.tables e below _ (s₁.setTop (mkF m 31 #[.val (.long q1), .second, .val (.int p2), .val (.int p3), .val (.int p4), .val (.int cI), .val (.int hI), .unset, .unset, .unset, .unset, .unset, .unset, .unset, .unset, .unset, .unset, .unset, .unset] [(.long ((1 : Int64) + ((q1 &&& (9223372036854775807 : Int64)) - ((q1 &&& (9223372036854775807 : Int64)) / ((17179869184 : Int64) / cI.toInt64)) * ((17179869184 : Int64) / cI.toInt64))))]))
  obtain ⟨cnt, hcnt⟩ : ∃ z : Int64, z = ((1 : Int64) + ((q1 &&& (9223372036854775807 : Int64)) - ((q1 &&& (9223372036854775807 : Int64)) / ((17179869184 : Int64) / cI.toInt64)) * ((17179869184 : Int64) / cI.toInt64))) := ⟨_, rfl⟩
  rw [← hcnt]
  have hcnt_ := own_qOK hcI_.2.2.2.1 hcI_.2.2.2.2 hcnt
  show OGo p.tables e below _ (s₁.setTop (mkF m 31 #[.val (.long q1), .second, .val (.int p2), .val (.int p3), .val (.int p4), .val (.int cI), .val (.int hI), .unset, .unset, .unset, .unset, .unset, .unset, .unset, .unset, .unset, .unset, .unset, .unset] [(.long cnt)]))
  refine OGo.st (fun _ k_ => XS.lstore X0.here hx rfl (hb hby at_31) rfl (l' := #[.val (.long q1), .second, .val (.int p2), .val (.int p3), .val (.int p4), .val (.int cI), .val (.int hI), .val (.long cnt), .second, .unset, .unset, .unset, .unset, .unset, .unset, .unset, .unset, .unset, .unset]) rfl k_) ?_
  show OGo p.tables e below _ (s₁.setTop (mkF m 33 #[.val (.long q1), .second, .val (.int p2), .val (.int p3), .val (.int p4), .val (.int cI), .val (.int hI), .val (.long cnt), .second, .unset, .unset, .unset, .unset, .unset, .unset, .unset, .unset, .unset, .unset] []))
  refine OGo.st (fun _ k_ => XS.iload X0.here hx rfl (hb hby at_33) rfl k_) ?_
  show OGo p.tables e below _ (s₁.setTop (mkF m 35 #[.val (.long q1), .second, .val (.int p2), .val (.int p3), .val (.int p4), .val (.int cI), .val (.int hI), .val (.long cnt), .second, .unset, .unset, .unset, .unset, .unset, .unset, .unset, .unset, .unset, .unset] [(.int p4)]))
  refine OGo.st (fun _ k_ => XS.iconst X0.here hx rfl (hb hby at_35) k_) ?_
  show OGo p.tables e below _ (s₁.setTop (mkF m 36 #[.val (.long q1), .second, .val (.int p2), .val (.int p3), .val (.int p4), .val (.int cI), .val (.int hI), .val (.long cnt), .second, .unset, .unset, .unset, .unset, .unset, .unset, .unset, .unset, .unset, .unset] [(.int (1 : Int32)), (.int p4)]))
  refine OGo.st (fun _ k_ => XS.iand X0.here hx rfl (hb hby at_36) rfl k_) ?_
  show OGo p.tables e below _ (s₁.setTop (mkF m 37 #[.val (.long q1), .second, .val (.int p2), .val (.int p3), .val (.int p4), .val (.int cI), .val (.int hI), .val (.long cnt), .second, .unset, .unset, .unset, .unset, .unset, .unset, .unset, .unset, .unset, .unset] [(.int (p4 &&& (1 : Int32)))]))
  by_cases hc37 : (p4 &&& (1 : Int32)) = 0
  · refine OGo.st (fun _ k_ => XS.ifYes X0.here hx rfl (pc0 := 37) (pc' := 44) rfl (hb hby at_37) rfl (XT.i0_eq_t hc37) (by decide) (by decide) k_) ?_
    show OGo p.tables e below _ (s₁.setTop (mkF m 44 #[.val (.long q1), .second, .val (.int p2), .val (.int p3), .val (.int p4), .val (.int cI), .val (.int hI), .val (.long cnt), .second, .unset, .unset, .unset, .unset, .unset, .unset, .unset, .unset, .unset, .unset] []))
    refine OGo.st (fun _ k_ => XS.iconst X0.here hx rfl (hb hby at_44) k_) ?_
    show OGo p.tables e below _ (s₁.setTop (mkF m 45 #[.val (.long q1), .second, .val (.int p2), .val (.int p3), .val (.int p4), .val (.int cI), .val (.int hI), .val (.long cnt), .second, .unset, .unset, .unset, .unset, .unset, .unset, .unset, .unset, .unset, .unset] [(.int (0 : Int32))]))
    refine OGo.st (fun _ k_ => XS.istore X0.here hx rfl (hb hby at_45) rfl (l' := #[.val (.long q1), .second, .val (.int p2), .val (.int p3), .val (.int p4), .val (.int cI), .val (.int hI), .val (.long cnt), .second, .val (.int (0 : Int32)), .unset, .unset, .unset, .unset, .unset, .unset, .unset, .unset, .unset]) rfl k_) ?_
    show OGo p.tables e below _ (s₁.setTop (mkF m 47 #[.val (.long q1), .second, .val (.int p2), .val (.int p3), .val (.int p4), .val (.int cI), .val (.int hI), .val (.long cnt), .second, .val (.int (0 : Int32)), .unset, .unset, .unset, .unset, .unset, .unset, .unset, .unset, .unset] []))
    refine OGo.st (fun _ k_ => XS.iload X0.here hx rfl (hb hby at_47) rfl k_) ?_
    show OGo p.tables e below _ (s₁.setTop (mkF m 49 #[.val (.long q1), .second, .val (.int p2), .val (.int p3), .val (.int p4), .val (.int cI), .val (.int hI), .val (.long cnt), .second, .val (.int (0 : Int32)), .unset, .unset, .unset, .unset, .unset, .unset, .unset, .unset, .unset] [(.int (0 : Int32))]))
    refine OGo.st (fun _ k_ => XS.ifYes X0.here hx rfl (pc0 := 49) (pc' := 58) rfl (hb hby at_49) rfl (XT.i0_eq_t rfl) (by decide) (by decide) k_) ?_
    show OGo p.tables e below _ (s₁.setTop (mkF m 58 #[.val (.long q1), .second, .val (.int p2), .val (.int p3), .val (.int p4), .val (.int cI), .val (.int hI), .val (.long cnt), .second, .val (.int (0 : Int32)), .unset, .unset, .unset, .unset, .unset, .unset, .unset, .unset, .unset] []))
    obtain ⟨T1, X1, ez1, st1⟩ := getS X0 hx hZ hown (host := "") (hw _ (List.mem_of_getElem? (i := 2) rfl)) Via.refl e0 S_pa (g := (mkF m 58 #[.val (.long q1), .second, .val (.int p2), .val (.int p3), .val (.int p4), .val (.int cI), .val (.int hI), .val (.long cnt), .second, .val (.int (0 : Int32)), .unset, .unset, .unset, .unset, .unset, .unset, .unset, .unset, .unset] [])) rfl (hb hby at_58)
    refine OGo.st st1 ?_
    show OGo p.tables e below _ (T1.setTop (mkF m 61 #[.val (.long q1), .second, .val (.int p2), .val (.int p3), .val (.int p4), .val (.int cI), .val (.int hI), .val (.long cnt), .second, .val (.int (0 : Int32)), .unset, .unset, .unset, .unset, .unset, .unset, .unset, .unset, .unset] [(.ref pa)]))
    refine OGo.st (fun _ k_ => XS.astore X1.here hx rfl (hb hby at_61) rfl rfl (l' := #[.val (.long q1), .second, .val (.int p2), .val (.int p3), .val (.int p4), .val (.int cI), .val (.int hI), .val (.long cnt), .second, .val (.int (0 : Int32)), .val (.ref pa), .unset, .unset, .unset, .unset, .unset, .unset, .unset, .unset]) rfl k_) ?_
    show OGo p.tables e below _ (T1.setTop (mkF m 63 #[.val (.long q1), .second, .val (.int p2), .val (.int p3), .val (.int p4), .val (.int cI), .val (.int hI), .val (.long cnt), .second, .val (.int (0 : Int32)), .val (.ref pa), .unset, .unset, .unset, .unset, .unset, .unset, .unset, .unset] []))
    refine OGo.st (fun _ k_ => XS.iload X1.here hx rfl (hb hby at_63) rfl k_) ?_
    show OGo p.tables e below _ (T1.setTop (mkF m 65 #[.val (.long q1), .second, .val (.int p2), .val (.int p3), .val (.int p4), .val (.int cI), .val (.int hI), .val (.long cnt), .second, .val (.int (0 : Int32)), .val (.ref pa), .unset, .unset, .unset, .unset, .unset, .unset, .unset, .unset] [(.int (0 : Int32))]))
    refine OGo.st (fun _ k_ => XS.ifYes X1.here hx rfl (pc0 := 65) (pc' := 74) rfl (hb hby at_65) rfl (XT.i0_eq_t rfl) (by decide) (by decide) k_) ?_
    show OGo p.tables e below _ (T1.setTop (mkF m 74 #[.val (.long q1), .second, .val (.int p2), .val (.int p3), .val (.int p4), .val (.int cI), .val (.int hI), .val (.long cnt), .second, .val (.int (0 : Int32)), .val (.ref pa), .unset, .unset, .unset, .unset, .unset, .unset, .unset, .unset] []))
    refine OGo.st (fun _ k_ => XS.lconst X1.here hx rfl (hb hby at_74) k_) ?_
    show OGo p.tables e below _ (T1.setTop (mkF m 75 #[.val (.long q1), .second, .val (.int p2), .val (.int p3), .val (.int p4), .val (.int cI), .val (.int hI), .val (.long cnt), .second, .val (.int (0 : Int32)), .val (.ref pa), .unset, .unset, .unset, .unset, .unset, .unset, .unset, .unset] [(.long (1 : Int64))]))
    refine OGo.st (fun _ k_ => XS.lstore X1.here hx rfl (hb hby at_75) rfl (l' := #[.val (.long q1), .second, .val (.int p2), .val (.int p3), .val (.int p4), .val (.int cI), .val (.int hI), .val (.long cnt), .second, .val (.int (0 : Int32)), .val (.ref pa), .val (.long (1 : Int64)), .second, .unset, .unset, .unset, .unset, .unset, .unset]) rfl k_) ?_
    show OGo p.tables e below _ (T1.setTop (mkF m 77 #[.val (.long q1), .second, .val (.int p2), .val (.int p3), .val (.int p4), .val (.int cI), .val (.int hI), .val (.long cnt), .second, .val (.int (0 : Int32)), .val (.ref pa), .val (.long (1 : Int64)), .second, .unset, .unset, .unset, .unset, .unset, .unset] []))
    obtain ⟨T2, hz2, X2, ez2, Ez2, Az2, Dz2, -, st2⟩ := newO X1 hx hZ hown (hw _ (List.mem_of_getElem? (i := 5) rfl)) (hw _ (List.mem_of_getElem? (i := 6) rfl)) (hw _ (List.mem_of_getElem? (i := 7) rfl)) ez1 (g := (mkF m 77 #[.val (.long q1), .second, .val (.int p2), .val (.int p3), .val (.int p4), .val (.int cI), .val (.int hI), .val (.long cnt), .second, .val (.int (0 : Int32)), .val (.ref pa), .val (.long (1 : Int64)), .second, .unset, .unset, .unset, .unset, .unset, .unset] [])) rfl (hb hby at_77) (by decide) (by decide)
    obtain ⟨bz2, g2⟩ : ∃ z, z = h0.size := ⟨_, rfl⟩
    rw [← g2] at Az2 Dz2 st2
    have lt_va_bz2 : @LT.lt Nat instLTNat va bz2 := Nat.lt_of_lt_of_le E_va.lt (Nat.le_of_eq g2.symm)
    have lt_pa_bz2 : @LT.lt Nat instLTNat pa bz2 := Nat.lt_of_lt_of_le E_pa.lt (Nat.le_of_eq g2.symm)
    have lt_ca_bz2 : @LT.lt Nat instLTNat ca bz2 := Nat.lt_of_lt_of_le E_ca.lt (Nat.le_of_eq g2.symm)
    have g_bz2 : n0 ≤ bz2 := Nat.le_trans (Nat.le_trans Z0 (Keep.refl h0 []).1) (Nat.le_of_eq g2.symm)
    have sz_bz2 : h0.size ≤ bz2 := Nat.le_trans (Keep.refl h0 []).1 (Nat.le_of_eq g2.symm)
    have Ex_3 := E_va.ext Ez2
    have Af_4 := A_va.ext Ez2
    have Ex_5 := E_pa.ext Ez2
    have F_6 := F_code_pa.ext Ez2
    have Ex_7 := E_ca.ext Ez2
    have F_8 := F_code_ca.ext Ez2
    have O9 := O0.ext Ez2
    have K_10 : Keep h0 hz2 [] := (Keep.refl h0 []).ext Ez2
    have Sf11 : Safe Z own_EL s.vm hz2 bz2 := Safe.ext Ez2 O0.r.1 (Safe.new (Nat.le_of_eq g2.symm))
    have F_counters_2 : Fld Z hz2 bz2 "com/example/crivo/crivo/CountingParameters" "counters" "J" (.long (0 : Int64)) := Dz2 (Or.inr (hw _ (List.mem_of_getElem? (i := 49) rfl))) (ty := .long) (by decide)
    have F_hashes_2 : Fld Z hz2 bz2 "com/example/crivo/crivo/CountingParameters" "hashes" "I" (.int (0 : Int32)) := Dz2 (Or.inr (hw _ (List.mem_of_getElem? (i := 51) rfl))) (ty := .int) (by decide)
    have F_counterBits_2 : Fld Z hz2 bz2 "com/example/crivo/crivo/CountingParameters" "counterBits" "I" (.int (0 : Int32)) := Dz2 (Or.inr (hw _ (List.mem_of_getElem? (i := 53) rfl))) (ty := .int) (by decide)
    have F_update_2 : Fld Z hz2 bz2 "com/example/crivo/crivo/CountingParameters" "update" "Lcom/example/crivo/crivo/UpdateRule;" .null := Dz2 (Or.inr (hw _ (List.mem_of_getElem? (i := 55) rfl))) (ty := (.object "com/example/crivo/crivo/UpdateRule")) (by decide)
    refine OGo.st st2 ?_
    show OGo p.tables e below _ (T2.setTop (mkF m 80 #[.val (.long q1), .second, .val (.int p2), .val (.int p3), .val (.int p4), .val (.int cI), .val (.int hI), .val (.long cnt), .second, .val (.int (0 : Int32)), .val (.ref pa), .val (.long (1 : Int64)), .second, .unset, .unset, .unset, .unset, .unset, .unset] [(.ref bz2)]))
    refine OGo.st (fun _ k_ => XS.dup X2.here hx rfl (hb hby at_80) rfl rfl k_) ?_
    show OGo p.tables e below _ (T2.setTop (mkF m 81 #[.val (.long q1), .second, .val (.int p2), .val (.int p3), .val (.int p4), .val (.int cI), .val (.int hI), .val (.long cnt), .second, .val (.int (0 : Int32)), .val (.ref pa), .val (.long (1 : Int64)), .second, .unset, .unset, .unset, .unset, .unset, .unset] [(.ref bz2), (.ref bz2)]))
    refine OGo.st (fun _ k_ => XS.lload X2.here hx rfl (hb hby at_81) rfl k_) ?_
    show OGo p.tables e below _ (T2.setTop (mkF m 83 #[.val (.long q1), .second, .val (.int p2), .val (.int p3), .val (.int p4), .val (.int cI), .val (.int hI), .val (.long cnt), .second, .val (.int (0 : Int32)), .val (.ref pa), .val (.long (1 : Int64)), .second, .unset, .unset, .unset, .unset, .unset, .unset] [(.long cnt), (.ref bz2), (.ref bz2)]))
    refine OGo.st (fun _ k_ => XS.iload X2.here hx rfl (hb hby at_83) rfl k_) ?_
    show OGo p.tables e below _ (T2.setTop (mkF m 85 #[.val (.long q1), .second, .val (.int p2), .val (.int p3), .val (.int p4), .val (.int cI), .val (.int hI), .val (.long cnt), .second, .val (.int (0 : Int32)), .val (.ref pa), .val (.long (1 : Int64)), .second, .unset, .unset, .unset, .unset, .unset, .unset] [(.int hI), (.long cnt), (.ref bz2), (.ref bz2)]))
    refine OGo.st (fun _ k_ => XS.iload X2.here hx rfl (hb hby at_85) rfl k_) ?_
    show OGo p.tables e below _ (T2.setTop (mkF m 87 #[.val (.long q1), .second, .val (.int p2), .val (.int p3), .val (.int p4), .val (.int cI), .val (.int hI), .val (.long cnt), .second, .val (.int (0 : Int32)), .val (.ref pa), .val (.long (1 : Int64)), .second, .unset, .unset, .unset, .unset, .unset, .unset] [(.int cI), (.int hI), (.long cnt), (.ref bz2), (.ref bz2)]))
    refine OGo.st (fun _ k_ => XS.aload X2.here hx rfl (hb hby at_87) rfl rfl k_) ?_
    show OGo p.tables e below _ (T2.setTop (mkF m 89 #[.val (.long q1), .second, .val (.int p2), .val (.int p3), .val (.int p4), .val (.int cI), .val (.int hI), .val (.long cnt), .second, .val (.int (0 : Int32)), .val (.ref pa), .val (.long (1 : Int64)), .second, .unset, .unset, .unset, .unset, .unset, .unset] [(.ref pa), (.int cI), (.int hI), (.long cnt), (.ref bz2), (.ref bz2)]))
    have hsc12 : ∀ x ∈ ([] : List Addr), x < hz2.size ∧ Safe Z own_EL s.vm hz2 x := all0
    obtain ⟨_, _, ⟨T12, Lz12, kz12, nz12⟩, -, X12, sn12, gn12, ⟨Lc12, hQ12, lz12, yz12, zz12, cr12⟩, st12⟩ := X2.specialBackS hx (y := (⟨"com/example/crivo/crivo/CountingParameters", "<init>", "(JIILcom/example/crivo/crivo/UpdateRule;)V"⟩ : MethodName)) rfl hown (mvT hZ (hw _ (List.mem_of_getElem? (i := 8) rfl))) (mvT hZ (hw _ (List.mem_of_getElem? (i := 9) rfl))) (mvT hZ (hw _ (List.mem_of_getElem? (i := 10) rfl))) (by decide) (own_backSH (W := 1) (rm6 l Z a0 hw [] bz2 cnt hI cI pa hz2 n0 (Nat.le_trans Z0 K_10.1) hcI_.1 hcI_.2.1 hcnt_.1 hcnt_.2 hcI_.2.2.1 hhI_.1 hhI_.2 Az2 F_counters_2 F_hashes_2 F_counterBits_2 F_update_2 g_bz2) hZ (hw _ (List.mem_of_getElem? (i := 10) rfl)) (hw _ (List.mem_of_getElem? (i := 7) rfl)) (by decide) (by decide) (own_EW hw) O9.r.1 hsc12) (g := (mkF m 89 #[.val (.long q1), .second, .val (.int p2), .val (.int p3), .val (.int p4), .val (.int cI), .val (.int hI), .val (.long cnt), .second, .val (.int (0 : Int32)), .val (.ref pa), .val (.long (1 : Int64)), .second, .unset, .unset, .unset, .unset, .unset, .unset] [(.ref pa), (.int cI), (.int hI), (.long cnt), (.ref bz2), (.ref bz2)])) rfl (by rw [hml]; rfl) (Steps.refl _) (a := bz2) (argsL := [(.long cnt), (.int hI), (.int cI), (.ref pa)]) (rest := [(.ref bz2)]) (lenOf own_pd8 rfl) rfl (by show 2 * 0 + _ ≤ _; exact Nat.le_of_eq rfl) (hb hby at_89) (fun _ _ => ⟨rfl, ez2, (by decide : 1 + 8 ≤ _), (by decide : 4 + 144 ≤ _)⟩)
    dsimp only [Pt.U, Pt.locs, Pt.cells, Pt.slots] at X12 sn12 gn12 lz12 yz12 zz12 cr12 st12 hQ12
    subst lz12 yz12 zz12
    have O12 := O9.call sn12 ez2 gn12 cr12
    have X12 : Stand p l e room_1 (s.setVm T12.vm) m #[(.long q1), (.int p2), (.int p3), (.int p4)] below meth c T12 _ _ _ := X12
    have hZ := O12.z
    have hown := O12.o
    obtain ⟨rfl, Nq12, Kq12, qz12_0, qz12_1, qz12_2, qz12_3⟩ := hQ12
    have N12 := Fr.app N0 Nq12
    have Ex_13 := Ex_3.keep Kq12
    have Af_14 := Af_4.keep Kq12 (ninS (Nat.ne_of_lt lt_va_bz2) nin0)
    have Ex_15 := Ex_5.keep Kq12
    have F_16 := F_6.keep Kq12 (ninS (Nat.ne_of_lt lt_pa_bz2) nin0)
    have Ex_17 := Ex_7.keep Kq12
    have F_18 := F_8.keep Kq12 (ninS (Nat.ne_of_lt lt_ca_bz2) nin0)
    have Ex_19 := Az2.keep Kq12
    have K_20 : Keep h0 T12.heap [] := K_10.trans Kq12 (allS (Or.inr sz_bz2) all0)
    refine OGo.tr st12 ?_
    show OGo p.tables e below _ (T12.setTop (mkF m 92 #[.val (.long q1), .second, .val (.int p2), .val (.int p3), .val (.int p4), .val (.int cI), .val (.int hI), .val (.long cnt), .second, .val (.int (0 : Int32)), .val (.ref pa), .val (.long (1 : Int64)), .second, .unset, .unset, .unset, .unset, .unset, .unset] [(.ref bz2)]))
    refine OGo.st (fun _ k_ => XS.astore X12.here hx rfl (hb hby at_92) rfl rfl (l' := #[.val (.long q1), .second, .val (.int p2), .val (.int p3), .val (.int p4), .val (.int cI), .val (.int hI), .val (.long cnt), .second, .val (.int (0 : Int32)), .val (.ref pa), .val (.long (1 : Int64)), .second, .val (.ref bz2), .unset, .unset, .unset, .unset, .unset]) rfl k_) ?_
    show OGo p.tables e below _ (T12.setTop (mkF m 94 #[.val (.long q1), .second, .val (.int p2), .val (.int p3), .val (.int p4), .val (.int cI), .val (.int hI), .val (.long cnt), .second, .val (.int (0 : Int32)), .val (.ref pa), .val (.long (1 : Int64)), .second, .val (.ref bz2), .unset, .unset, .unset, .unset, .unset] []))
    refine OGo.st (fun _ k_ => XS.aload X12.here hx rfl (hb hby at_94) rfl rfl k_) ?_
    show OGo p.tables e below _ (T12.setTop (mkF m 96 #[.val (.long q1), .second, .val (.int p2), .val (.int p3), .val (.int p4), .val (.int cI), .val (.int hI), .val (.long cnt), .second, .val (.int (0 : Int32)), .val (.ref pa), .val (.long (1 : Int64)), .second, .val (.ref bz2), .unset, .unset, .unset, .unset, .unset] [(.ref bz2)]))
    obtain ⟨cq21, kqz21, qz21a, qz21b, qz21c⟩ := isOf hZ rfl Ex_19
    obtain ⟨_, _, ⟨T21, Lz21, kz21, nz21⟩, -, X21, ⟨Lc21, hQ21, lz21, yz21, zz21⟩, st21⟩ := X12.virtualBack hx (y := (⟨"com/example/crivo/crivo/CountingParameters", "toFile", "()[J"⟩ : MethodName)) (z := (⟨"com/example/crivo/crivo/CountingParameters", "toFile", "()[J"⟩ : MethodName)) hown (mvT hZ (hw _ (List.mem_of_getElem? (i := 56) rfl))) (mvT hZ (hw _ (List.mem_of_getElem? (i := 57) rfl))) (notFace_of_selects (args := #[]) (mvT hZ (hw _ (List.mem_of_getElem? (i := 59) rfl)))) (mvT hZ (hw _ (List.mem_of_getElem? (i := 59) rfl))) (mvT hZ (hw _ (List.mem_of_getElem? (i := 58) rfl))) (by decide) (backOf (W := 0) (rm12 l Z a0 hw [] bz2 cnt hI cI pa (1 : Int32) T12.heap n0 (Nat.le_trans Z0 K_20.1) qz12_0 qz12_1 qz12_2 qz12_3 F_16) hZ (hw _ (List.mem_of_getElem? (i := 60) rfl)) (hw _ (List.mem_of_getElem? (i := 7) rfl)) (by decide) (by decide)) qz21a qz21c (g := (mkF m 96 #[.val (.long q1), .second, .val (.int p2), .val (.int p3), .val (.int p4), .val (.int cI), .val (.int hI), .val (.long cnt), .second, .val (.int (0 : Int32)), .val (.ref pa), .val (.long (1 : Int64)), .second, .val (.ref bz2), .unset, .unset, .unset, .unset, .unset] [(.ref bz2)])) rfl (by rw [hml]; rfl) (Steps.refl _) (argsL := []) (rest := []) (lenOf own_pd9 rfl) rfl (by show 2 * 0 + _ ≤ _; exact Nat.le_of_eq rfl) (hb hby at_96) (fun _ _ => ⟨rfl, rfl, (by decide : 9 + 1 ≤ _), (by decide : 148 + 4 ≤ _)⟩)
    dsimp only [Pt.U, Pt.locs, Pt.cells, Pt.slots] at X21 lz21 yz21 zz21 st21 hQ21
    subst lz21 yz21 zz21
    obtain ⟨yq21, kq21, rfl, Nq21, Kq21, gq21, sq21, Aq21⟩ := hQ21
    have N21 := Fr.app N12 Nq21
    have ne_va_yq21 : va ≠ yq21 := Nat.ne_of_lt (Nat.lt_of_lt_of_le Ex_13.lt sq21)
    have ne_pa_yq21 : pa ≠ yq21 := Nat.ne_of_lt (Nat.lt_of_lt_of_le Ex_15.lt sq21)
    have ne_ca_yq21 : ca ≠ yq21 := Nat.ne_of_lt (Nat.lt_of_lt_of_le Ex_17.lt sq21)
    have ne_bz2_yq21 : bz2 ≠ yq21 := Nat.ne_of_lt (Nat.lt_of_lt_of_le Ex_19.lt sq21)
    have szq21 : h0.size ≤ yq21 := Nat.le_trans K_20.1 sq21
    have Ex_22 := Ex_13.keep Kq21
    have Af_23 := Af_14.keep Kq21 nin0
    have Ex_24 := Ex_15.keep Kq21
    have F_25 := F_16.keep Kq21 nin0
    have Ex_26 := Ex_17.keep Kq21
    have F_27 := F_18.keep Kq21 nin0
    have Ex_28 := Ex_19.keep Kq21
    have F_29 := qz12_0.keep Kq21 nin0
    have F_30 := qz12_1.keep Kq21 nin0
    have F_31 := qz12_2.keep Kq21 nin0
    have F_32 := qz12_3.keep Kq21 nin0
    have hsk33 : ∀ x ∈ ([] : List Addr), Safe Z own_EL T12.vm T12.heap x := all0
    have O33 := O12.keep Kq21 hsk33
    have K_34 : Keep h0 T21.heap [] := K_20.trans Kq21 all0
    refine OGo.tr st21 ?_
    show OGo p.tables e below _ (T21.setTop (mkF m 99 #[.val (.long q1), .second, .val (.int p2), .val (.int p3), .val (.int p4), .val (.int cI), .val (.int hI), .val (.long cnt), .second, .val (.int (0 : Int32)), .val (.ref pa), .val (.long (1 : Int64)), .second, .val (.ref bz2), .unset, .unset, .unset, .unset, .unset] [(.ref yq21)]))
    refine OGo.st (fun _ k_ => XS.astore X21.here hx rfl (hb hby at_99) rfl rfl (l' := #[.val (.long q1), .second, .val (.int p2), .val (.int p3), .val (.int p4), .val (.int cI), .val (.int hI), .val (.long cnt), .second, .val (.int (0 : Int32)), .val (.ref pa), .val (.long (1 : Int64)), .second, .val (.ref bz2), .val (.ref yq21), .unset, .unset, .unset, .unset]) rfl k_) ?_
    show OGo p.tables e below _ (T21.setTop (mkF m 101 #[.val (.long q1), .second, .val (.int p2), .val (.int p3), .val (.int p4), .val (.int cI), .val (.int hI), .val (.long cnt), .second, .val (.int (0 : Int32)), .val (.ref pa), .val (.long (1 : Int64)), .second, .val (.ref bz2), .val (.ref yq21), .unset, .unset, .unset, .unset] []))
    refine OGo.st (fun _ k_ => XS.aload X21.here hx rfl (hb hby at_101) rfl rfl k_) ?_
    show OGo p.tables e below _ (T21.setTop (mkF m 103 #[.val (.long q1), .second, .val (.int p2), .val (.int p3), .val (.int p4), .val (.int cI), .val (.int hI), .val (.long cnt), .second, .val (.int (0 : Int32)), .val (.ref pa), .val (.long (1 : Int64)), .second, .val (.ref bz2), .val (.ref yq21), .unset, .unset, .unset, .unset] [(.ref yq21)]))
    refine OGo.st (fun _ k_ => XT.nullNo X21.here hx rfl (hb hby at_103) rfl rfl (fun q => nomatch q) k_) ?_
    show OGo p.tables e below _ (T21.setTop (mkF m 106 #[.val (.long q1), .second, .val (.int p2), .val (.int p3), .val (.int p4), .val (.int cI), .val (.int hI), .val (.long cnt), .second, .val (.int (0 : Int32)), .val (.ref pa), .val (.long (1 : Int64)), .second, .val (.ref bz2), .val (.ref yq21), .unset, .unset, .unset, .unset] []))
    refine OGo.st (fun _ k_ => XS.aload X21.here hx rfl (hb hby at_106) rfl rfl k_) ?_
    show OGo p.tables e below _ (T21.setTop (mkF m 108 #[.val (.long q1), .second, .val (.int p2), .val (.int p3), .val (.int p4), .val (.int cI), .val (.int hI), .val (.long cnt), .second, .val (.int (0 : Int32)), .val (.ref pa), .val (.long (1 : Int64)), .second, .val (.ref bz2), .val (.ref yq21), .unset, .unset, .unset, .unset] [(.ref yq21)]))
    have qz35 := own_alen X21 hx hZ rfl Aq21 (g := (mkF m 108 #[.val (.long q1), .second, .val (.int p2), .val (.int p3), .val (.int p4), .val (.int cI), .val (.int hI), .val (.long cnt), .second, .val (.int (0 : Int32)), .val (.ref pa), .val (.long (1 : Int64)), .second, .val (.ref bz2), .val (.ref yq21), .unset, .unset, .unset, .unset] [(.ref yq21)])) rfl rfl (hb hby at_108)
    refine OGo.st qz35 ?_
    show OGo p.tables e below _ (T21.setTop (mkF m 109 #[.val (.long q1), .second, .val (.int p2), .val (.int p3), .val (.int p4), .val (.int cI), .val (.int hI), .val (.long cnt), .second, .val (.int (0 : Int32)), .val (.ref pa), .val (.long (1 : Int64)), .second, .val (.ref bz2), .val (.ref yq21), .unset, .unset, .unset, .unset] [(.int (4 : Int32))]))
    refine OGo.st (fun _ k_ => XS.iconst X21.here hx rfl (hb hby at_109) k_) ?_
    show OGo p.tables e below _ (T21.setTop (mkF m 110 #[.val (.long q1), .second, .val (.int p2), .val (.int p3), .val (.int p4), .val (.int cI), .val (.int hI), .val (.long cnt), .second, .val (.int (0 : Int32)), .val (.ref pa), .val (.long (1 : Int64)), .second, .val (.ref bz2), .val (.ref yq21), .unset, .unset, .unset, .unset] [(.int (4 : Int32)), (.int (4 : Int32))]))
    refine OGo.st (fun _ k_ => XS.icmpNo X21.here hx rfl (hb hby at_110) rfl (XT.ii_ne_f (by decide)) k_) ?_
    show OGo p.tables e below _ (T21.setTop (mkF m 113 #[.val (.long q1), .second, .val (.int p2), .val (.int p3), .val (.int p4), .val (.int cI), .val (.int hI), .val (.long cnt), .second, .val (.int (0 : Int32)), .val (.ref pa), .val (.long (1 : Int64)), .second, .val (.ref bz2), .val (.ref yq21), .unset, .unset, .unset, .unset] []))
    refine OGo.st (fun _ k_ => XS.aload X21.here hx rfl (hb hby at_113) rfl rfl k_) ?_
    show OGo p.tables e below _ (T21.setTop (mkF m 115 #[.val (.long q1), .second, .val (.int p2), .val (.int p3), .val (.int p4), .val (.int cI), .val (.int hI), .val (.long cnt), .second, .val (.int (0 : Int32)), .val (.ref pa), .val (.long (1 : Int64)), .second, .val (.ref bz2), .val (.ref yq21), .unset, .unset, .unset, .unset] [(.ref yq21)]))
    refine OGo.st (fun _ k_ => XS.iconst X21.here hx rfl (hb hby at_115) k_) ?_
    show OGo p.tables e below _ (T21.setTop (mkF m 116 #[.val (.long q1), .second, .val (.int p2), .val (.int p3), .val (.int p4), .val (.int cI), .val (.int hI), .val (.long cnt), .second, .val (.int (0 : Int32)), .val (.ref pa), .val (.long (1 : Int64)), .second, .val (.ref bz2), .val (.ref yq21), .unset, .unset, .unset, .unset] [(.int (0 : Int32)), (.ref yq21)]))
    have qz36 := own_ldJ X21 hx hZ rfl Aq21 (j := (0 : Int32)) (v := cnt) (by decide) rfl (g := (mkF m 116 #[.val (.long q1), .second, .val (.int p2), .val (.int p3), .val (.int p4), .val (.int cI), .val (.int hI), .val (.long cnt), .second, .val (.int (0 : Int32)), .val (.ref pa), .val (.long (1 : Int64)), .second, .val (.ref bz2), .val (.ref yq21), .unset, .unset, .unset, .unset] [(.int (0 : Int32)), (.ref yq21)])) rfl rfl (hb hby at_116)
    refine OGo.st qz36 ?_
    show OGo p.tables e below _ (T21.setTop (mkF m 117 #[.val (.long q1), .second, .val (.int p2), .val (.int p3), .val (.int p4), .val (.int cI), .val (.int hI), .val (.long cnt), .second, .val (.int (0 : Int32)), .val (.ref pa), .val (.long (1 : Int64)), .second, .val (.ref bz2), .val (.ref yq21), .unset, .unset, .unset, .unset] [(.long cnt)]))
    refine OGo.st (fun _ k_ => XS.lload X21.here hx rfl (hb hby at_117) rfl k_) ?_
    show OGo p.tables e below _ (T21.setTop (mkF m 119 #[.val (.long q1), .second, .val (.int p2), .val (.int p3), .val (.int p4), .val (.int cI), .val (.int hI), .val (.long cnt), .second, .val (.int (0 : Int32)), .val (.ref pa), .val (.long (1 : Int64)), .second, .val (.ref bz2), .val (.ref yq21), .unset, .unset, .unset, .unset] [(.long cnt), (.long cnt)]))
    refine OGo.st (fun _ k_ => XT.lcmp X21.here hx rfl (hb hby at_119) rfl k_) ?_
    show OGo p.tables e below _ (T21.setTop (mkF m 120 #[.val (.long q1), .second, .val (.int p2), .val (.int p3), .val (.int p4), .val (.int cI), .val (.int hI), .val (.long cnt), .second, .val (.int (0 : Int32)), .val (.ref pa), .val (.long (1 : Int64)), .second, .val (.ref bz2), .val (.ref yq21), .unset, .unset, .unset, .unset] [(.int (XT.cmpL cnt cnt))]))
    refine OGo.st (fun _ k_ => XS.ifNo X21.here hx rfl (hb hby at_120) rfl (XT.ll_ne_f (by first | rfl | decide)) k_) ?_
    show OGo p.tables e below _ (T21.setTop (mkF m 123 #[.val (.long q1), .second, .val (.int p2), .val (.int p3), .val (.int p4), .val (.int cI), .val (.int hI), .val (.long cnt), .second, .val (.int (0 : Int32)), .val (.ref pa), .val (.long (1 : Int64)), .second, .val (.ref bz2), .val (.ref yq21), .unset, .unset, .unset, .unset] []))
    refine OGo.st (fun _ k_ => XS.aload X21.here hx rfl (hb hby at_123) rfl rfl k_) ?_
    show OGo p.tables e below _ (T21.setTop (mkF m 125 #[.val (.long q1), .second, .val (.int p2), .val (.int p3), .val (.int p4), .val (.int cI), .val (.int hI), .val (.long cnt), .second, .val (.int (0 : Int32)), .val (.ref pa), .val (.long (1 : Int64)), .second, .val (.ref bz2), .val (.ref yq21), .unset, .unset, .unset, .unset] [(.ref yq21)]))
    refine OGo.st (fun _ k_ => XS.iconst X21.here hx rfl (hb hby at_125) k_) ?_
    show OGo p.tables e below _ (T21.setTop (mkF m 126 #[.val (.long q1), .second, .val (.int p2), .val (.int p3), .val (.int p4), .val (.int cI), .val (.int hI), .val (.long cnt), .second, .val (.int (0 : Int32)), .val (.ref pa), .val (.long (1 : Int64)), .second, .val (.ref bz2), .val (.ref yq21), .unset, .unset, .unset, .unset] [(.int (1 : Int32)), (.ref yq21)]))
    have qz37 := own_ldJ X21 hx hZ rfl Aq21 (j := (1 : Int32)) (v := hI.toInt64) (by decide) rfl (g := (mkF m 126 #[.val (.long q1), .second, .val (.int p2), .val (.int p3), .val (.int p4), .val (.int cI), .val (.int hI), .val (.long cnt), .second, .val (.int (0 : Int32)), .val (.ref pa), .val (.long (1 : Int64)), .second, .val (.ref bz2), .val (.ref yq21), .unset, .unset, .unset, .unset] [(.int (1 : Int32)), (.ref yq21)])) rfl rfl (hb hby at_126)
    refine OGo.st qz37 ?_
    show OGo p.tables e below _ (T21.setTop (mkF m 127 #[.val (.long q1), .second, .val (.int p2), .val (.int p3), .val (.int p4), .val (.int cI), .val (.int hI), .val (.long cnt), .second, .val (.int (0 : Int32)), .val (.ref pa), .val (.long (1 : Int64)), .second, .val (.ref bz2), .val (.ref yq21), .unset, .unset, .unset, .unset] [(.long hI.toInt64)]))
    refine OGo.st (fun _ k_ => XS.iload X21.here hx rfl (hb hby at_127) rfl k_) ?_
    show OGo p.tables e below _ (T21.setTop (mkF m 129 #[.val (.long q1), .second, .val (.int p2), .val (.int p3), .val (.int p4), .val (.int cI), .val (.int hI), .val (.long cnt), .second, .val (.int (0 : Int32)), .val (.ref pa), .val (.long (1 : Int64)), .second, .val (.ref bz2), .val (.ref yq21), .unset, .unset, .unset, .unset] [(.int hI), (.long hI.toInt64)]))
    refine OGo.st (fun _ k_ => XS.i2l X21.here hx rfl (hb hby at_129) rfl k_) ?_
    show OGo p.tables e below _ (T21.setTop (mkF m 130 #[.val (.long q1), .second, .val (.int p2), .val (.int p3), .val (.int p4), .val (.int cI), .val (.int hI), .val (.long cnt), .second, .val (.int (0 : Int32)), .val (.ref pa), .val (.long (1 : Int64)), .second, .val (.ref bz2), .val (.ref yq21), .unset, .unset, .unset, .unset] [(.long hI.toInt64), (.long hI.toInt64)]))
    refine OGo.st (fun _ k_ => XT.lcmp X21.here hx rfl (hb hby at_130) rfl k_) ?_
    show OGo p.tables e below _ (T21.setTop (mkF m 131 #[.val (.long q1), .second, .val (.int p2), .val (.int p3), .val (.int p4), .val (.int cI), .val (.int hI), .val (.long cnt), .second, .val (.int (0 : Int32)), .val (.ref pa), .val (.long (1 : Int64)), .second, .val (.ref bz2), .val (.ref yq21), .unset, .unset, .unset, .unset] [(.int (XT.cmpL hI.toInt64 hI.toInt64))]))
    refine OGo.st (fun _ k_ => XS.ifNo X21.here hx rfl (hb hby at_131) rfl (XT.ll_ne_f (by first | rfl | decide)) k_) ?_
    show OGo p.tables e below _ (T21.setTop (mkF m 134 #[.val (.long q1), .second, .val (.int p2), .val (.int p3), .val (.int p4), .val (.int cI), .val (.int hI), .val (.long cnt), .second, .val (.int (0 : Int32)), .val (.ref pa), .val (.long (1 : Int64)), .second, .val (.ref bz2), .val (.ref yq21), .unset, .unset, .unset, .unset] []))
    refine OGo.st (fun _ k_ => XS.aload X21.here hx rfl (hb hby at_134) rfl rfl k_) ?_
    show OGo p.tables e below _ (T21.setTop (mkF m 136 #[.val (.long q1), .second, .val (.int p2), .val (.int p3), .val (.int p4), .val (.int cI), .val (.int hI), .val (.long cnt), .second, .val (.int (0 : Int32)), .val (.ref pa), .val (.long (1 : Int64)), .second, .val (.ref bz2), .val (.ref yq21), .unset, .unset, .unset, .unset] [(.ref yq21)]))
    refine OGo.st (fun _ k_ => XS.iconst X21.here hx rfl (hb hby at_136) k_) ?_
    show OGo p.tables e below _ (T21.setTop (mkF m 137 #[.val (.long q1), .second, .val (.int p2), .val (.int p3), .val (.int p4), .val (.int cI), .val (.int hI), .val (.long cnt), .second, .val (.int (0 : Int32)), .val (.ref pa), .val (.long (1 : Int64)), .second, .val (.ref bz2), .val (.ref yq21), .unset, .unset, .unset, .unset] [(.int (2 : Int32)), (.ref yq21)]))
    have qz38 := own_ldJ X21 hx hZ rfl Aq21 (j := (2 : Int32)) (v := cI.toInt64) (by decide) rfl (g := (mkF m 137 #[.val (.long q1), .second, .val (.int p2), .val (.int p3), .val (.int p4), .val (.int cI), .val (.int hI), .val (.long cnt), .second, .val (.int (0 : Int32)), .val (.ref pa), .val (.long (1 : Int64)), .second, .val (.ref bz2), .val (.ref yq21), .unset, .unset, .unset, .unset] [(.int (2 : Int32)), (.ref yq21)])) rfl rfl (hb hby at_137)
    refine OGo.st qz38 ?_
    show OGo p.tables e below _ (T21.setTop (mkF m 138 #[.val (.long q1), .second, .val (.int p2), .val (.int p3), .val (.int p4), .val (.int cI), .val (.int hI), .val (.long cnt), .second, .val (.int (0 : Int32)), .val (.ref pa), .val (.long (1 : Int64)), .second, .val (.ref bz2), .val (.ref yq21), .unset, .unset, .unset, .unset] [(.long cI.toInt64)]))
    refine OGo.st (fun _ k_ => XS.iload X21.here hx rfl (hb hby at_138) rfl k_) ?_
    show OGo p.tables e below _ (T21.setTop (mkF m 140 #[.val (.long q1), .second, .val (.int p2), .val (.int p3), .val (.int p4), .val (.int cI), .val (.int hI), .val (.long cnt), .second, .val (.int (0 : Int32)), .val (.ref pa), .val (.long (1 : Int64)), .second, .val (.ref bz2), .val (.ref yq21), .unset, .unset, .unset, .unset] [(.int cI), (.long cI.toInt64)]))
    refine OGo.st (fun _ k_ => XS.i2l X21.here hx rfl (hb hby at_140) rfl k_) ?_
    show OGo p.tables e below _ (T21.setTop (mkF m 141 #[.val (.long q1), .second, .val (.int p2), .val (.int p3), .val (.int p4), .val (.int cI), .val (.int hI), .val (.long cnt), .second, .val (.int (0 : Int32)), .val (.ref pa), .val (.long (1 : Int64)), .second, .val (.ref bz2), .val (.ref yq21), .unset, .unset, .unset, .unset] [(.long cI.toInt64), (.long cI.toInt64)]))
    refine OGo.st (fun _ k_ => XT.lcmp X21.here hx rfl (hb hby at_141) rfl k_) ?_
    show OGo p.tables e below _ (T21.setTop (mkF m 142 #[.val (.long q1), .second, .val (.int p2), .val (.int p3), .val (.int p4), .val (.int cI), .val (.int hI), .val (.long cnt), .second, .val (.int (0 : Int32)), .val (.ref pa), .val (.long (1 : Int64)), .second, .val (.ref bz2), .val (.ref yq21), .unset, .unset, .unset, .unset] [(.int (XT.cmpL cI.toInt64 cI.toInt64))]))
    refine OGo.st (fun _ k_ => XS.ifNo X21.here hx rfl (hb hby at_142) rfl (XT.ll_ne_f (by first | rfl | decide)) k_) ?_
    show OGo p.tables e below _ (T21.setTop (mkF m 145 #[.val (.long q1), .second, .val (.int p2), .val (.int p3), .val (.int p4), .val (.int cI), .val (.int hI), .val (.long cnt), .second, .val (.int (0 : Int32)), .val (.ref pa), .val (.long (1 : Int64)), .second, .val (.ref bz2), .val (.ref yq21), .unset, .unset, .unset, .unset] []))
    refine OGo.st (fun _ k_ => XS.aload X21.here hx rfl (hb hby at_145) rfl rfl k_) ?_
    show OGo p.tables e below _ (T21.setTop (mkF m 147 #[.val (.long q1), .second, .val (.int p2), .val (.int p3), .val (.int p4), .val (.int cI), .val (.int hI), .val (.long cnt), .second, .val (.int (0 : Int32)), .val (.ref pa), .val (.long (1 : Int64)), .second, .val (.ref bz2), .val (.ref yq21), .unset, .unset, .unset, .unset] [(.ref yq21)]))
    refine OGo.st (fun _ k_ => XS.iconst X21.here hx rfl (hb hby at_147) k_) ?_
    show OGo p.tables e below _ (T21.setTop (mkF m 148 #[.val (.long q1), .second, .val (.int p2), .val (.int p3), .val (.int p4), .val (.int cI), .val (.int hI), .val (.long cnt), .second, .val (.int (0 : Int32)), .val (.ref pa), .val (.long (1 : Int64)), .second, .val (.ref bz2), .val (.ref yq21), .unset, .unset, .unset, .unset] [(.int (3 : Int32)), (.ref yq21)]))
    have qz39 := own_ldJ X21 hx hZ rfl Aq21 (j := (3 : Int32)) (v := (1 : Int32).toInt64) (by decide) rfl (g := (mkF m 148 #[.val (.long q1), .second, .val (.int p2), .val (.int p3), .val (.int p4), .val (.int cI), .val (.int hI), .val (.long cnt), .second, .val (.int (0 : Int32)), .val (.ref pa), .val (.long (1 : Int64)), .second, .val (.ref bz2), .val (.ref yq21), .unset, .unset, .unset, .unset] [(.int (3 : Int32)), (.ref yq21)])) rfl rfl (hb hby at_148)
    refine OGo.st qz39 ?_
    show OGo p.tables e below _ (T21.setTop (mkF m 149 #[.val (.long q1), .second, .val (.int p2), .val (.int p3), .val (.int p4), .val (.int cI), .val (.int hI), .val (.long cnt), .second, .val (.int (0 : Int32)), .val (.ref pa), .val (.long (1 : Int64)), .second, .val (.ref bz2), .val (.ref yq21), .unset, .unset, .unset, .unset] [(.long (1 : Int32).toInt64)]))
    refine OGo.st (fun _ k_ => XS.lload X21.here hx rfl (hb hby at_149) rfl k_) ?_
    show OGo p.tables e below _ (T21.setTop (mkF m 151 #[.val (.long q1), .second, .val (.int p2), .val (.int p3), .val (.int p4), .val (.int cI), .val (.int hI), .val (.long cnt), .second, .val (.int (0 : Int32)), .val (.ref pa), .val (.long (1 : Int64)), .second, .val (.ref bz2), .val (.ref yq21), .unset, .unset, .unset, .unset] [(.long (1 : Int64)), (.long (1 : Int32).toInt64)]))
    refine OGo.st (fun _ k_ => XT.lcmp X21.here hx rfl (hb hby at_151) rfl k_) ?_
    show OGo p.tables e below _ (T21.setTop (mkF m 152 #[.val (.long q1), .second, .val (.int p2), .val (.int p3), .val (.int p4), .val (.int cI), .val (.int hI), .val (.long cnt), .second, .val (.int (0 : Int32)), .val (.ref pa), .val (.long (1 : Int64)), .second, .val (.ref bz2), .val (.ref yq21), .unset, .unset, .unset, .unset] [(.int (XT.cmpL (1 : Int32).toInt64 (1 : Int64)))]))
    refine OGo.st (fun _ k_ => XS.ifNo X21.here hx rfl (hb hby at_152) rfl (XT.ll_ne_f (by first | rfl | decide)) k_) ?_
    show OGo p.tables e below _ (T21.setTop (mkF m 155 #[.val (.long q1), .second, .val (.int p2), .val (.int p3), .val (.int p4), .val (.int cI), .val (.int hI), .val (.long cnt), .second, .val (.int (0 : Int32)), .val (.ref pa), .val (.long (1 : Int64)), .second, .val (.ref bz2), .val (.ref yq21), .unset, .unset, .unset, .unset] []))
    refine OGo.st (fun _ k_ => XS.iconst X21.here hx rfl (hb hby at_155) k_) ?_
    show OGo p.tables e below _ (T21.setTop (mkF m 156 #[.val (.long q1), .second, .val (.int p2), .val (.int p3), .val (.int p4), .val (.int cI), .val (.int hI), .val (.long cnt), .second, .val (.int (0 : Int32)), .val (.ref pa), .val (.long (1 : Int64)), .second, .val (.ref bz2), .val (.ref yq21), .unset, .unset, .unset, .unset] [(.int (1 : Int32))]))
    refine OGo.st (fun _ k_ => XS.goto X21.here hx rfl (pc0 := 156) (pc' := 160) rfl (hb hby at_156) (by decide) (by decide) k_) ?_
    show OGo p.tables e below _ (T21.setTop (mkF m 160 #[.val (.long q1), .second, .val (.int p2), .val (.int p3), .val (.int p4), .val (.int cI), .val (.int hI), .val (.long cnt), .second, .val (.int (0 : Int32)), .val (.ref pa), .val (.long (1 : Int64)), .second, .val (.ref bz2), .val (.ref yq21), .unset, .unset, .unset, .unset] [(.int (1 : Int32))]))
    refine OGo.st (fun _ k_ => XS.istore X21.here hx rfl (hb hby at_160) rfl (l' := #[.val (.long q1), .second, .val (.int p2), .val (.int p3), .val (.int p4), .val (.int cI), .val (.int hI), .val (.long cnt), .second, .val (.int (0 : Int32)), .val (.ref pa), .val (.long (1 : Int64)), .second, .val (.ref bz2), .val (.ref yq21), .val (.int (1 : Int32)), .unset, .unset, .unset]) rfl k_) ?_
    show OGo p.tables e below _ (T21.setTop (mkF m 162 #[.val (.long q1), .second, .val (.int p2), .val (.int p3), .val (.int p4), .val (.int cI), .val (.int hI), .val (.long cnt), .second, .val (.int (0 : Int32)), .val (.ref pa), .val (.long (1 : Int64)), .second, .val (.ref bz2), .val (.ref yq21), .val (.int (1 : Int32)), .unset, .unset, .unset] []))
    refine OGo.st (fun _ k_ => XS.iload X21.here hx rfl (hb hby at_162) rfl k_) ?_
    show OGo p.tables e below _ (T21.setTop (mkF m 164 #[.val (.long q1), .second, .val (.int p2), .val (.int p3), .val (.int p4), .val (.int cI), .val (.int hI), .val (.long cnt), .second, .val (.int (0 : Int32)), .val (.ref pa), .val (.long (1 : Int64)), .second, .val (.ref bz2), .val (.ref yq21), .val (.int (1 : Int32)), .unset, .unset, .unset] [(.int (1 : Int32))]))
    refine OGo.st (fun _ k_ => XS.ifYes X21.here hx rfl (pc0 := 164) (pc' := 169) rfl (hb hby at_164) rfl (XT.i0_ne_t (by decide)) (by decide) (by decide) k_) ?_
    show OGo p.tables e below _ (T21.setTop (mkF m 169 #[.val (.long q1), .second, .val (.int p2), .val (.int p3), .val (.int p4), .val (.int cI), .val (.int hI), .val (.long cnt), .second, .val (.int (0 : Int32)), .val (.ref pa), .val (.long (1 : Int64)), .second, .val (.ref bz2), .val (.ref yq21), .val (.int (1 : Int32)), .unset, .unset, .unset] []))
    refine OGo.st (fun _ k_ => XS.aload X21.here hx rfl (hb hby at_169) rfl rfl k_) ?_
    show OGo p.tables e below _ (T21.setTop (mkF m 171 #[.val (.long q1), .second, .val (.int p2), .val (.int p3), .val (.int p4), .val (.int cI), .val (.int hI), .val (.long cnt), .second, .val (.int (0 : Int32)), .val (.ref pa), .val (.long (1 : Int64)), .second, .val (.ref bz2), .val (.ref yq21), .val (.int (1 : Int32)), .unset, .unset, .unset] [(.ref yq21)]))
    have hsc40 : ∀ x ∈ ([] : List Addr), x < T21.heap.size ∧ Safe Z own_EL T12.vm T21.heap x := all0
    obtain ⟨_, _, ⟨T40, Lz40, kz40, nz40⟩, -, X40, sn40, gn40, ⟨Lc40, hQ40, lz40, yz40, zz40, cr40⟩, st40⟩ := callSS X21 hx (y := (⟨"com/example/crivo/crivo/CountingParameters", "fromFile", "([J)Lcom/example/crivo/crivo/CountingParameters;"⟩ : MethodName)) hown (mvT hZ (hw _ (List.mem_of_getElem? (i := 64) rfl))) (mvT hZ (hw _ (List.mem_of_getElem? (i := 65) rfl))) (mvT hZ (hw _ (List.mem_of_getElem? (i := 7) rfl))) (mvT hZ (hw _ (List.mem_of_getElem? (i := 66) rfl))) (by decide) (own_backSH (W := 0) (rm13 l Z a0 hw [] yq21 kq21 cnt hI cI (1 : Int32).toInt64 va k pa ca pa T21.heap n0 (Nat.le_trans Z0 K_34.1) hcI_.1 hcI_.2.1 hcnt_.1 hcnt_.2 hcI_.2.2.1 hhI_.1 hhI_.2 (by unfold own_ft; rw [if_pos rfl]) (own_sta_keep S_va K_34) Ex_22 Af_23 Ex_24 F_25 Ex_26 F_27 Ex_24 Aq21) hZ (hw _ (List.mem_of_getElem? (i := 66) rfl)) (hw _ (List.mem_of_getElem? (i := 7) rfl)) (by decide) (by decide) (own_EW hw) O33.r.1 hsc40) (g := (mkF m 171 #[.val (.long q1), .second, .val (.int p2), .val (.int p3), .val (.int p4), .val (.int cI), .val (.int hI), .val (.long cnt), .second, .val (.int (0 : Int32)), .val (.ref pa), .val (.long (1 : Int64)), .second, .val (.ref bz2), .val (.ref yq21), .val (.int (1 : Int32)), .unset, .unset, .unset] [(.ref yq21)])) rfl (by rw [hml]; rfl) (argsL := [(.ref yq21)]) (rest := []) (lenOf own_pd10 rfl) rfl (by show 2 * 0 + _ ≤ _; exact Nat.le_of_eq rfl) (hb hby at_171) (fun _ _ => ⟨rfl, rfl, (by decide : 10 + 17 ≤ _), (by decide : 152 + 267 ≤ _)⟩)
    dsimp only [Pt.U, Pt.locs, Pt.cells, Pt.slots] at X40 sn40 gn40 lz40 yz40 zz40 cr40 st40 hQ40
    subst lz40 yz40 zz40
    have O40 := O33.call sn40 rfl gn40 cr40
    have X40 : Stand p l e room_1 (s.setVm T40.vm) m #[(.long q1), (.int p2), (.int p3), (.int p4)] below meth c T40 _ _ _ := X40
    have hZ := O40.z
    have hown := O40.o
    obtain ⟨yq40, rfl, Nq40, Kq40, sq40, Eq40, fq40_0, fq40_1, fq40_2, fq40_3⟩ := hQ40
    have N40 := Fr.app N21 Nq40
    have gq40 : n0 ≤ yq40 := Nat.le_trans (Nat.le_trans Z0 K_34.1) sq40
    have ne_va_yq40 : va ≠ yq40 := Nat.ne_of_lt (Nat.lt_of_lt_of_le Ex_22.lt sq40)
    have ne_pa_yq40 : pa ≠ yq40 := Nat.ne_of_lt (Nat.lt_of_lt_of_le Ex_24.lt sq40)
    have ne_ca_yq40 : ca ≠ yq40 := Nat.ne_of_lt (Nat.lt_of_lt_of_le Ex_26.lt sq40)
    have ne_bz2_yq40 : bz2 ≠ yq40 := Nat.ne_of_lt (Nat.lt_of_lt_of_le Ex_28.lt sq40)
    have ne_yq21_yq40 : yq21 ≠ yq40 := Nat.ne_of_lt (Nat.lt_of_lt_of_le Aq21.lt sq40)
    have szq40 : h0.size ≤ yq40 := Nat.le_trans K_34.1 sq40
    have Ex_41 := Ex_22.keep Kq40
    have Af_42 := Af_23.keep Kq40 nin0
    have Ex_43 := Ex_24.keep Kq40
    have F_44 := F_25.keep Kq40 nin0
    have Ex_45 := Ex_26.keep Kq40
    have F_46 := F_27.keep Kq40 nin0
    have Ex_47 := Ex_28.keep Kq40
    have F_48 := F_29.keep Kq40 nin0
    have F_49 := F_30.keep Kq40 nin0
    have F_50 := F_31.keep Kq40 nin0
    have F_51 := F_32.keep Kq40 nin0
    have Af_52 := Aq21.keep Kq40 nin0
    have K_53 : Keep h0 T40.heap [] := K_34.trans Kq40 all0
    refine OGo.tr st40 ?_
    show OGo p.tables e below _ (T40.setTop (mkF m 174 #[.val (.long q1), .second, .val (.int p2), .val (.int p3), .val (.int p4), .val (.int cI), .val (.int hI), .val (.long cnt), .second, .val (.int (0 : Int32)), .val (.ref pa), .val (.long (1 : Int64)), .second, .val (.ref bz2), .val (.ref yq21), .val (.int (1 : Int32)), .unset, .unset, .unset] [(.ref yq40)]))
    refine OGo.st (fun _ k_ => XS.astore X40.here hx rfl (hb hby at_174) rfl rfl (l' := #[.val (.long q1), .second, .val (.int p2), .val (.int p3), .val (.int p4), .val (.int cI), .val (.int hI), .val (.long cnt), .second, .val (.int (0 : Int32)), .val (.ref pa), .val (.long (1 : Int64)), .second, .val (.ref bz2), .val (.ref yq21), .val (.int (1 : Int32)), .val (.ref yq40), .unset, .unset]) rfl k_) ?_
    show OGo p.tables e below _ (T40.setTop (mkF m 176 #[.val (.long q1), .second, .val (.int p2), .val (.int p3), .val (.int p4), .val (.int cI), .val (.int hI), .val (.long cnt), .second, .val (.int (0 : Int32)), .val (.ref pa), .val (.long (1 : Int64)), .second, .val (.ref bz2), .val (.ref yq21), .val (.int (1 : Int32)), .val (.ref yq40), .unset, .unset] []))
    refine OGo.st (fun _ k_ => XS.aload X40.here hx rfl (hb hby at_176) rfl rfl k_) ?_
    show OGo p.tables e below _ (T40.setTop (mkF m 178 #[.val (.long q1), .second, .val (.int p2), .val (.int p3), .val (.int p4), .val (.int cI), .val (.int hI), .val (.long cnt), .second, .val (.int (0 : Int32)), .val (.ref pa), .val (.long (1 : Int64)), .second, .val (.ref bz2), .val (.ref yq21), .val (.int (1 : Int32)), .val (.ref yq40), .unset, .unset] [(.ref yq40)]))
    obtain ⟨cq54, kqz54, qz54a, qz54b, qz54c⟩ := isOf hZ rfl Eq40
    obtain ⟨_, _, ⟨T54, Lz54, kz54, nz54⟩, -, X54, ⟨Lc54, hQ54, lz54, yz54, zz54⟩, st54⟩ := X40.virtualBack hx (y := (⟨"com/example/crivo/crivo/CountingParameters", "counters", "()J"⟩ : MethodName)) (z := (⟨"com/example/crivo/crivo/CountingParameters", "counters", "()J"⟩ : MethodName)) hown (mvT hZ (hw _ (List.mem_of_getElem? (i := 103) rfl))) (mvT hZ (hw _ (List.mem_of_getElem? (i := 104) rfl))) (notFace_of_selects (args := #[]) (mvT hZ (hw _ (List.mem_of_getElem? (i := 106) rfl)))) (mvT hZ (hw _ (List.mem_of_getElem? (i := 106) rfl))) (mvT hZ (hw _ (List.mem_of_getElem? (i := 105) rfl))) (by decide) (backOf (W := 0) (rm14 l Z a0 hw [] yq40 cnt T40.heap n0 (Nat.le_trans Z0 K_53.1) fq40_0) hZ (hw _ (List.mem_of_getElem? (i := 107) rfl)) (hw _ (List.mem_of_getElem? (i := 7) rfl)) (by decide) (by decide)) qz54a qz54c (g := (mkF m 178 #[.val (.long q1), .second, .val (.int p2), .val (.int p3), .val (.int p4), .val (.int cI), .val (.int hI), .val (.long cnt), .second, .val (.int (0 : Int32)), .val (.ref pa), .val (.long (1 : Int64)), .second, .val (.ref bz2), .val (.ref yq21), .val (.int (1 : Int32)), .val (.ref yq40), .unset, .unset] [(.ref yq40)])) rfl (by rw [hml]; rfl) (Steps.refl _) (argsL := []) (rest := []) (lenOf own_pd11 rfl) rfl (by show 2 * 0 + _ ≤ _; exact Nat.le_of_eq rfl) (hb hby at_178) (fun _ _ => ⟨rfl, rfl, (by decide : 27 + 0 ≤ _), (by decide : 419 + 0 ≤ _)⟩)
    dsimp only [Pt.U, Pt.locs, Pt.cells, Pt.slots] at X54 lz54 yz54 zz54 st54 hQ54
    subst lz54 yz54 zz54
    obtain ⟨rfl, Nq54, ez54⟩ := hQ54
    have N54 := Fr.app N40 Nq54
    refine OGo.tr st54 ?_
    show OGo p.tables e below _ (T54.setTop (mkF m 181 #[.val (.long q1), .second, .val (.int p2), .val (.int p3), .val (.int p4), .val (.int cI), .val (.int hI), .val (.long cnt), .second, .val (.int (0 : Int32)), .val (.ref pa), .val (.long (1 : Int64)), .second, .val (.ref bz2), .val (.ref yq21), .val (.int (1 : Int32)), .val (.ref yq40), .unset, .unset] [(.long cnt)]))
    refine OGo.st (fun _ k_ => XS.lload X54.here hx rfl (hb hby at_181) rfl k_) ?_
    show OGo p.tables e below _ (T54.setTop (mkF m 183 #[.val (.long q1), .second, .val (.int p2), .val (.int p3), .val (.int p4), .val (.int cI), .val (.int hI), .val (.long cnt), .second, .val (.int (0 : Int32)), .val (.ref pa), .val (.long (1 : Int64)), .second, .val (.ref bz2), .val (.ref yq21), .val (.int (1 : Int32)), .val (.ref yq40), .unset, .unset] [(.long cnt), (.long cnt)]))
    refine OGo.st (fun _ k_ => XT.lcmp X54.here hx rfl (hb hby at_183) rfl k_) ?_
    show OGo p.tables e below _ (T54.setTop (mkF m 184 #[.val (.long q1), .second, .val (.int p2), .val (.int p3), .val (.int p4), .val (.int cI), .val (.int hI), .val (.long cnt), .second, .val (.int (0 : Int32)), .val (.ref pa), .val (.long (1 : Int64)), .second, .val (.ref bz2), .val (.ref yq21), .val (.int (1 : Int32)), .val (.ref yq40), .unset, .unset] [(.int (XT.cmpL cnt cnt))]))
    refine OGo.st (fun _ k_ => XS.ifNo X54.here hx rfl (hb hby at_184) rfl (XT.ll_ne_f (by first | rfl | decide)) k_) ?_
    show OGo p.tables e below _ (T54.setTop (mkF m 187 #[.val (.long q1), .second, .val (.int p2), .val (.int p3), .val (.int p4), .val (.int cI), .val (.int hI), .val (.long cnt), .second, .val (.int (0 : Int32)), .val (.ref pa), .val (.long (1 : Int64)), .second, .val (.ref bz2), .val (.ref yq21), .val (.int (1 : Int32)), .val (.ref yq40), .unset, .unset] []))
    refine OGo.st (fun _ k_ => XS.aload X54.here hx rfl (hb hby at_187) rfl rfl k_) ?_
    show OGo p.tables e below _ (T54.setTop (mkF m 189 #[.val (.long q1), .second, .val (.int p2), .val (.int p3), .val (.int p4), .val (.int cI), .val (.int hI), .val (.long cnt), .second, .val (.int (0 : Int32)), .val (.ref pa), .val (.long (1 : Int64)), .second, .val (.ref bz2), .val (.ref yq21), .val (.int (1 : Int32)), .val (.ref yq40), .unset, .unset] [(.ref yq40)]))
    obtain ⟨cq55, kqz55, qz55a, qz55b, qz55c⟩ := isOf hZ ez54 Eq40
    obtain ⟨_, _, ⟨T55, Lz55, kz55, nz55⟩, -, X55, ⟨Lc55, hQ55, lz55, yz55, zz55⟩, st55⟩ := X54.virtualBack hx (y := (⟨"com/example/crivo/crivo/CountingParameters", "hashes", "()I"⟩ : MethodName)) (z := (⟨"com/example/crivo/crivo/CountingParameters", "hashes", "()I"⟩ : MethodName)) hown (mvT hZ (hw _ (List.mem_of_getElem? (i := 108) rfl))) (mvT hZ (hw _ (List.mem_of_getElem? (i := 109) rfl))) (notFace_of_selects (args := #[]) (mvT hZ (hw _ (List.mem_of_getElem? (i := 111) rfl)))) (mvT hZ (hw _ (List.mem_of_getElem? (i := 111) rfl))) (mvT hZ (hw _ (List.mem_of_getElem? (i := 110) rfl))) (by decide) (backOf (W := 0) (rm15 l Z a0 hw [] yq40 hI T40.heap n0 (Nat.le_trans Z0 K_53.1) fq40_1) hZ (hw _ (List.mem_of_getElem? (i := 112) rfl)) (hw _ (List.mem_of_getElem? (i := 7) rfl)) (by decide) (by decide)) qz55a qz55c (g := (mkF m 189 #[.val (.long q1), .second, .val (.int p2), .val (.int p3), .val (.int p4), .val (.int cI), .val (.int hI), .val (.long cnt), .second, .val (.int (0 : Int32)), .val (.ref pa), .val (.long (1 : Int64)), .second, .val (.ref bz2), .val (.ref yq21), .val (.int (1 : Int32)), .val (.ref yq40), .unset, .unset] [(.ref yq40)])) rfl (by rw [hml]; rfl) (Steps.refl _) (argsL := []) (rest := []) (lenOf own_pd12 rfl) rfl (by show 2 * 0 + _ ≤ _; exact Nat.le_of_eq rfl) (hb hby at_189) (fun _ _ => ⟨rfl, ez54, (by decide : 27 + 0 ≤ _), (by decide : 419 + 0 ≤ _)⟩)
    dsimp only [Pt.U, Pt.locs, Pt.cells, Pt.slots] at X55 lz55 yz55 zz55 st55 hQ55
    subst lz55 yz55 zz55
    obtain ⟨rfl, Nq55, ez55⟩ := hQ55
    have N55 := Fr.app N54 Nq55
    refine OGo.tr st55 ?_
    show OGo p.tables e below _ (T55.setTop (mkF m 192 #[.val (.long q1), .second, .val (.int p2), .val (.int p3), .val (.int p4), .val (.int cI), .val (.int hI), .val (.long cnt), .second, .val (.int (0 : Int32)), .val (.ref pa), .val (.long (1 : Int64)), .second, .val (.ref bz2), .val (.ref yq21), .val (.int (1 : Int32)), .val (.ref yq40), .unset, .unset] [(.int hI)]))
    refine OGo.st (fun _ k_ => XS.iload X55.here hx rfl (hb hby at_192) rfl k_) ?_
    show OGo p.tables e below _ (T55.setTop (mkF m 194 #[.val (.long q1), .second, .val (.int p2), .val (.int p3), .val (.int p4), .val (.int cI), .val (.int hI), .val (.long cnt), .second, .val (.int (0 : Int32)), .val (.ref pa), .val (.long (1 : Int64)), .second, .val (.ref bz2), .val (.ref yq21), .val (.int (1 : Int32)), .val (.ref yq40), .unset, .unset] [(.int hI), (.int hI)]))
    refine OGo.st (fun _ k_ => XS.icmpNo X55.here hx rfl (hb hby at_194) rfl (XT.ii_ne_f (by first | rfl | decide)) k_) ?_
    show OGo p.tables e below _ (T55.setTop (mkF m 197 #[.val (.long q1), .second, .val (.int p2), .val (.int p3), .val (.int p4), .val (.int cI), .val (.int hI), .val (.long cnt), .second, .val (.int (0 : Int32)), .val (.ref pa), .val (.long (1 : Int64)), .second, .val (.ref bz2), .val (.ref yq21), .val (.int (1 : Int32)), .val (.ref yq40), .unset, .unset] []))
    refine OGo.st (fun _ k_ => XS.aload X55.here hx rfl (hb hby at_197) rfl rfl k_) ?_
    show OGo p.tables e below _ (T55.setTop (mkF m 199 #[.val (.long q1), .second, .val (.int p2), .val (.int p3), .val (.int p4), .val (.int cI), .val (.int hI), .val (.long cnt), .second, .val (.int (0 : Int32)), .val (.ref pa), .val (.long (1 : Int64)), .second, .val (.ref bz2), .val (.ref yq21), .val (.int (1 : Int32)), .val (.ref yq40), .unset, .unset] [(.ref yq40)]))
    obtain ⟨cq56, kqz56, qz56a, qz56b, qz56c⟩ := isOf hZ ez55 Eq40
    obtain ⟨_, _, ⟨T56, Lz56, kz56, nz56⟩, -, X56, ⟨Lc56, hQ56, lz56, yz56, zz56⟩, st56⟩ := X55.virtualBack hx (y := (⟨"com/example/crivo/crivo/CountingParameters", "counterBits", "()I"⟩ : MethodName)) (z := (⟨"com/example/crivo/crivo/CountingParameters", "counterBits", "()I"⟩ : MethodName)) hown (mvT hZ (hw _ (List.mem_of_getElem? (i := 113) rfl))) (mvT hZ (hw _ (List.mem_of_getElem? (i := 114) rfl))) (notFace_of_selects (args := #[]) (mvT hZ (hw _ (List.mem_of_getElem? (i := 116) rfl)))) (mvT hZ (hw _ (List.mem_of_getElem? (i := 116) rfl))) (mvT hZ (hw _ (List.mem_of_getElem? (i := 115) rfl))) (by decide) (backOf (W := 0) (rm16 l Z a0 hw [] yq40 cI T40.heap n0 (Nat.le_trans Z0 K_53.1) fq40_2) hZ (hw _ (List.mem_of_getElem? (i := 117) rfl)) (hw _ (List.mem_of_getElem? (i := 7) rfl)) (by decide) (by decide)) qz56a qz56c (g := (mkF m 199 #[.val (.long q1), .second, .val (.int p2), .val (.int p3), .val (.int p4), .val (.int cI), .val (.int hI), .val (.long cnt), .second, .val (.int (0 : Int32)), .val (.ref pa), .val (.long (1 : Int64)), .second, .val (.ref bz2), .val (.ref yq21), .val (.int (1 : Int32)), .val (.ref yq40), .unset, .unset] [(.ref yq40)])) rfl (by rw [hml]; rfl) (Steps.refl _) (argsL := []) (rest := []) (lenOf own_pd12 rfl) rfl (by show 2 * 0 + _ ≤ _; exact Nat.le_of_eq rfl) (hb hby at_199) (fun _ _ => ⟨rfl, ez55, (by decide : 27 + 0 ≤ _), (by decide : 419 + 0 ≤ _)⟩)
    dsimp only [Pt.U, Pt.locs, Pt.cells, Pt.slots] at X56 lz56 yz56 zz56 st56 hQ56
    subst lz56 yz56 zz56
    obtain ⟨rfl, Nq56, ez56⟩ := hQ56
    have N56 := Fr.app N55 Nq56
    refine OGo.tr st56 ?_
    show OGo p.tables e below _ (T56.setTop (mkF m 202 #[.val (.long q1), .second, .val (.int p2), .val (.int p3), .val (.int p4), .val (.int cI), .val (.int hI), .val (.long cnt), .second, .val (.int (0 : Int32)), .val (.ref pa), .val (.long (1 : Int64)), .second, .val (.ref bz2), .val (.ref yq21), .val (.int (1 : Int32)), .val (.ref yq40), .unset, .unset] [(.int cI)]))
    refine OGo.st (fun _ k_ => XS.iload X56.here hx rfl (hb hby at_202) rfl k_) ?_
    show OGo p.tables e below _ (T56.setTop (mkF m 204 #[.val (.long q1), .second, .val (.int p2), .val (.int p3), .val (.int p4), .val (.int cI), .val (.int hI), .val (.long cnt), .second, .val (.int (0 : Int32)), .val (.ref pa), .val (.long (1 : Int64)), .second, .val (.ref bz2), .val (.ref yq21), .val (.int (1 : Int32)), .val (.ref yq40), .unset, .unset] [(.int cI), (.int cI)]))
    refine OGo.st (fun _ k_ => XS.icmpNo X56.here hx rfl (hb hby at_204) rfl (XT.ii_ne_f (by first | rfl | decide)) k_) ?_
    show OGo p.tables e below _ (T56.setTop (mkF m 207 #[.val (.long q1), .second, .val (.int p2), .val (.int p3), .val (.int p4), .val (.int cI), .val (.int hI), .val (.long cnt), .second, .val (.int (0 : Int32)), .val (.ref pa), .val (.long (1 : Int64)), .second, .val (.ref bz2), .val (.ref yq21), .val (.int (1 : Int32)), .val (.ref yq40), .unset, .unset] []))
    refine OGo.st (fun _ k_ => XS.aload X56.here hx rfl (hb hby at_207) rfl rfl k_) ?_
    show OGo p.tables e below _ (T56.setTop (mkF m 209 #[.val (.long q1), .second, .val (.int p2), .val (.int p3), .val (.int p4), .val (.int cI), .val (.int hI), .val (.long cnt), .second, .val (.int (0 : Int32)), .val (.ref pa), .val (.long (1 : Int64)), .second, .val (.ref bz2), .val (.ref yq21), .val (.int (1 : Int32)), .val (.ref yq40), .unset, .unset] [(.ref yq40)]))
    obtain ⟨cq57, kqz57, qz57a, qz57b, qz57c⟩ := isOf hZ ez56 Eq40
    obtain ⟨_, _, ⟨T57, Lz57, kz57, nz57⟩, -, X57, ⟨Lc57, hQ57, lz57, yz57, zz57⟩, st57⟩ := X56.virtualBack hx (y := (⟨"com/example/crivo/crivo/CountingParameters", "update", "()Lcom/example/crivo/crivo/UpdateRule;"⟩ : MethodName)) (z := (⟨"com/example/crivo/crivo/CountingParameters", "update", "()Lcom/example/crivo/crivo/UpdateRule;"⟩ : MethodName)) hown (mvT hZ (hw _ (List.mem_of_getElem? (i := 118) rfl))) (mvT hZ (hw _ (List.mem_of_getElem? (i := 119) rfl))) (notFace_of_selects (args := #[]) (mvT hZ (hw _ (List.mem_of_getElem? (i := 121) rfl)))) (mvT hZ (hw _ (List.mem_of_getElem? (i := 121) rfl))) (mvT hZ (hw _ (List.mem_of_getElem? (i := 120) rfl))) (by decide) (backOf (W := 0) (rm17 l Z a0 hw [] yq40 pa T40.heap n0 (Nat.le_trans Z0 K_53.1) fq40_3) hZ (hw _ (List.mem_of_getElem? (i := 122) rfl)) (hw _ (List.mem_of_getElem? (i := 7) rfl)) (by decide) (by decide)) qz57a qz57c (g := (mkF m 209 #[.val (.long q1), .second, .val (.int p2), .val (.int p3), .val (.int p4), .val (.int cI), .val (.int hI), .val (.long cnt), .second, .val (.int (0 : Int32)), .val (.ref pa), .val (.long (1 : Int64)), .second, .val (.ref bz2), .val (.ref yq21), .val (.int (1 : Int32)), .val (.ref yq40), .unset, .unset] [(.ref yq40)])) rfl (by rw [hml]; rfl) (Steps.refl _) (argsL := []) (rest := []) (lenOf own_pd13 rfl) rfl (by show 2 * 0 + _ ≤ _; exact Nat.le_of_eq rfl) (hb hby at_209) (fun _ _ => ⟨rfl, ez56, (by decide : 27 + 0 ≤ _), (by decide : 419 + 0 ≤ _)⟩)
    dsimp only [Pt.U, Pt.locs, Pt.cells, Pt.slots] at X57 lz57 yz57 zz57 st57 hQ57
    subst lz57 yz57 zz57
    obtain ⟨rfl, Nq57, ez57⟩ := hQ57
    have N57 := Fr.app N56 Nq57
    refine OGo.tr st57 ?_
    show OGo p.tables e below _ (T57.setTop (mkF m 212 #[.val (.long q1), .second, .val (.int p2), .val (.int p3), .val (.int p4), .val (.int cI), .val (.int hI), .val (.long cnt), .second, .val (.int (0 : Int32)), .val (.ref pa), .val (.long (1 : Int64)), .second, .val (.ref bz2), .val (.ref yq21), .val (.int (1 : Int32)), .val (.ref yq40), .unset, .unset] [(.ref pa)]))
    refine OGo.st (fun _ k_ => XS.aload X57.here hx rfl (hb hby at_212) rfl rfl k_) ?_
    show OGo p.tables e below _ (T57.setTop (mkF m 214 #[.val (.long q1), .second, .val (.int p2), .val (.int p3), .val (.int p4), .val (.int cI), .val (.int hI), .val (.long cnt), .second, .val (.int (0 : Int32)), .val (.ref pa), .val (.long (1 : Int64)), .second, .val (.ref bz2), .val (.ref yq21), .val (.int (1 : Int32)), .val (.ref yq40), .unset, .unset] [(.ref pa), (.ref pa)]))
    refine OGo.st (fun _ k_ => XT.acmpNo X57.here hx rfl (hb hby at_214) rfl rfl rfl (XT.aa_ne_f (by first | rfl | decide)) k_) ?_
    show OGo p.tables e below _ (T57.setTop (mkF m 217 #[.val (.long q1), .second, .val (.int p2), .val (.int p3), .val (.int p4), .val (.int cI), .val (.int hI), .val (.long cnt), .second, .val (.int (0 : Int32)), .val (.ref pa), .val (.long (1 : Int64)), .second, .val (.ref bz2), .val (.ref yq21), .val (.int (1 : Int32)), .val (.ref yq40), .unset, .unset] []))
    refine OGo.st (fun _ k_ => XS.iconst X57.here hx rfl (hb hby at_217) k_) ?_
    show OGo p.tables e below _ (T57.setTop (mkF m 218 #[.val (.long q1), .second, .val (.int p2), .val (.int p3), .val (.int p4), .val (.int cI), .val (.int hI), .val (.long cnt), .second, .val (.int (0 : Int32)), .val (.ref pa), .val (.long (1 : Int64)), .second, .val (.ref bz2), .val (.ref yq21), .val (.int (1 : Int32)), .val (.ref yq40), .unset, .unset] [(.int (1 : Int32))]))
    refine OGo.st (fun _ k_ => XS.goto X57.here hx rfl (pc0 := 218) (pc' := 222) rfl (hb hby at_218) (by decide) (by decide) k_) ?_
    show OGo p.tables e below _ (T57.setTop (mkF m 222 #[.val (.long q1), .second, .val (.int p2), .val (.int p3), .val (.int p4), .val (.int cI), .val (.int hI), .val (.long cnt), .second, .val (.int (0 : Int32)), .val (.ref pa), .val (.long (1 : Int64)), .second, .val (.ref bz2), .val (.ref yq21), .val (.int (1 : Int32)), .val (.ref yq40), .unset, .unset] [(.int (1 : Int32))]))
    refine OGo.st (fun _ k_ => XS.istore X57.here hx rfl (hb hby at_222) rfl (l' := #[.val (.long q1), .second, .val (.int p2), .val (.int p3), .val (.int p4), .val (.int cI), .val (.int hI), .val (.long cnt), .second, .val (.int (0 : Int32)), .val (.ref pa), .val (.long (1 : Int64)), .second, .val (.ref bz2), .val (.ref yq21), .val (.int (1 : Int32)), .val (.ref yq40), .val (.int (1 : Int32)), .unset]) rfl k_) ?_
    show OGo p.tables e below _ (T57.setTop (mkF m 224 #[.val (.long q1), .second, .val (.int p2), .val (.int p3), .val (.int p4), .val (.int cI), .val (.int hI), .val (.long cnt), .second, .val (.int (0 : Int32)), .val (.ref pa), .val (.long (1 : Int64)), .second, .val (.ref bz2), .val (.ref yq21), .val (.int (1 : Int32)), .val (.ref yq40), .val (.int (1 : Int32)), .unset] []))
    refine OGo.st (fun _ k_ => XS.aload X57.here hx rfl (hb hby at_224) rfl rfl k_) ?_
    show OGo p.tables e below _ (T57.setTop (mkF m 226 #[.val (.long q1), .second, .val (.int p2), .val (.int p3), .val (.int p4), .val (.int cI), .val (.int hI), .val (.long cnt), .second, .val (.int (0 : Int32)), .val (.ref pa), .val (.long (1 : Int64)), .second, .val (.ref bz2), .val (.ref yq21), .val (.int (1 : Int32)), .val (.ref yq40), .val (.int (1 : Int32)), .unset] [(.ref yq21)]))
    refine OGo.st (fun _ k_ => XS.iconst X57.here hx rfl (hb hby at_226) k_) ?_
    show OGo p.tables e below _ (T57.setTop (mkF m 227 #[.val (.long q1), .second, .val (.int p2), .val (.int p3), .val (.int p4), .val (.int cI), .val (.int hI), .val (.long cnt), .second, .val (.int (0 : Int32)), .val (.ref pa), .val (.long (1 : Int64)), .second, .val (.ref bz2), .val (.ref yq21), .val (.int (1 : Int32)), .val (.ref yq40), .val (.int (1 : Int32)), .unset] [(.int (0 : Int32)), (.ref yq21)]))
    refine OGo.st (fun _ k_ => XS.lconst X57.here hx rfl (hb hby at_227) k_) ?_
    show OGo p.tables e below _ (T57.setTop (mkF m 228 #[.val (.long q1), .second, .val (.int p2), .val (.int p3), .val (.int p4), .val (.int cI), .val (.int hI), .val (.long cnt), .second, .val (.int (0 : Int32)), .val (.ref pa), .val (.long (1 : Int64)), .second, .val (.ref bz2), .val (.ref yq21), .val (.int (1 : Int32)), .val (.ref yq40), .val (.int (1 : Int32)), .unset] [(.long (0 : Int64)), (.int (0 : Int32)), (.ref yq21)]))
    obtain ⟨T58, hz58, X58, ez58, W58, V58, st58⟩ := own_stJ X57 hx hZ ez57 Af_52 (j := (0 : Int32)) (by decide)  (g := (mkF m 228 #[.val (.long q1), .second, .val (.int p2), .val (.int p3), .val (.int p4), .val (.int cI), .val (.int hI), .val (.long cnt), .second, .val (.int (0 : Int32)), .val (.ref pa), .val (.long (1 : Int64)), .second, .val (.ref bz2), .val (.ref yq21), .val (.int (1 : Int32)), .val (.ref yq40), .val (.int (1 : Int32)), .unset] [(.long (0 : Int64)), (.int (0 : Int32)), (.ref yq21)])) rfl rfl (hb hby at_228)
    have Ex_59 := Ex_41.wr W58
    have Af_60 := Af_42.other W58 ne_va_yq21
    have Ex_61 := Ex_43.wr W58
    have F_62 := F_44.other W58 (Or.inl ne_pa_yq21)
    have Ex_63 := Ex_45.wr W58
    have F_64 := F_46.other W58 (Or.inl ne_ca_yq21)
    have Ex_65 := Ex_47.wr W58
    have F_66 := F_48.other W58 (Or.inl ne_bz2_yq21)
    have F_67 := F_49.other W58 (Or.inl ne_bz2_yq21)
    have F_68 := F_50.other W58 (Or.inl ne_bz2_yq21)
    have F_69 := F_51.other W58 (Or.inl ne_bz2_yq21)
    have Ex_70 := Eq40.wr W58
    have F_71 := fq40_0.other W58 (Or.inl (Ne.symm ne_yq21_yq40))
    have F_72 := fq40_1.other W58 (Or.inl (Ne.symm ne_yq21_yq40))
    have F_73 := fq40_2.other W58 (Or.inl (Ne.symm ne_yq21_yq40))
    have F_74 := fq40_3.other W58 (Or.inl (Ne.symm ne_yq21_yq40))
    have O75 := O40.wr W58 own_sf
    have N58 := Fr.snoc X58 N57 gq21
    have K_76 : Keep h0 hz58 [] := K_53.wr W58 (Or.inr szq21)
    refine OGo.st st58 ?_
    show OGo p.tables e below _ (T58.setTop (mkF m 229 #[.val (.long q1), .second, .val (.int p2), .val (.int p3), .val (.int p4), .val (.int cI), .val (.int hI), .val (.long cnt), .second, .val (.int (0 : Int32)), .val (.ref pa), .val (.long (1 : Int64)), .second, .val (.ref bz2), .val (.ref yq21), .val (.int (1 : Int32)), .val (.ref yq40), .val (.int (1 : Int32)), .unset] []))
    refine OGo.st (fun _ k_ => XS.aload X58.here hx rfl (hb hby at_229) rfl rfl k_) ?_
    show OGo p.tables e below _ (T58.setTop (mkF m 231 #[.val (.long q1), .second, .val (.int p2), .val (.int p3), .val (.int p4), .val (.int cI), .val (.int hI), .val (.long cnt), .second, .val (.int (0 : Int32)), .val (.ref pa), .val (.long (1 : Int64)), .second, .val (.ref bz2), .val (.ref yq21), .val (.int (1 : Int32)), .val (.ref yq40), .val (.int (1 : Int32)), .unset] [(.ref yq21)]))
    refine OGo.st (fun _ k_ => XS.iconst X58.here hx rfl (hb hby at_231) k_) ?_
    show OGo p.tables e below _ (T58.setTop (mkF m 232 #[.val (.long q1), .second, .val (.int p2), .val (.int p3), .val (.int p4), .val (.int cI), .val (.int hI), .val (.long cnt), .second, .val (.int (0 : Int32)), .val (.ref pa), .val (.long (1 : Int64)), .second, .val (.ref bz2), .val (.ref yq21), .val (.int (1 : Int32)), .val (.ref yq40), .val (.int (1 : Int32)), .unset] [(.int (3 : Int32)), (.ref yq21)]))
    refine OGo.st (fun _ k_ => XS.lconst X58.here hx rfl (hb hby at_232) k_) ?_
    show OGo p.tables e below _ (T58.setTop (mkF m 233 #[.val (.long q1), .second, .val (.int p2), .val (.int p3), .val (.int p4), .val (.int cI), .val (.int hI), .val (.long cnt), .second, .val (.int (0 : Int32)), .val (.ref pa), .val (.long (1 : Int64)), .second, .val (.ref bz2), .val (.ref yq21), .val (.int (1 : Int32)), .val (.ref yq40), .val (.int (1 : Int32)), .unset] [(.long (0 : Int64)), (.int (3 : Int32)), (.ref yq21)]))
    obtain ⟨T77, hz77, X77, ez77, W77, V77, st77⟩ := own_stJ X58 hx hZ ez58 V58 (j := (3 : Int32)) (by decide)  (g := (mkF m 233 #[.val (.long q1), .second, .val (.int p2), .val (.int p3), .val (.int p4), .val (.int cI), .val (.int hI), .val (.long cnt), .second, .val (.int (0 : Int32)), .val (.ref pa), .val (.long (1 : Int64)), .second, .val (.ref bz2), .val (.ref yq21), .val (.int (1 : Int32)), .val (.ref yq40), .val (.int (1 : Int32)), .unset] [(.long (0 : Int64)), (.int (3 : Int32)), (.ref yq21)])) rfl rfl (hb hby at_233)
    have Ex_78 := Ex_59.wr W77
    have Af_79 := Af_60.other W77 ne_va_yq21
    have Ex_80 := Ex_61.wr W77
    have F_81 := F_62.other W77 (Or.inl ne_pa_yq21)
    have Ex_82 := Ex_63.wr W77
    have F_83 := F_64.other W77 (Or.inl ne_ca_yq21)
    have Ex_84 := Ex_65.wr W77
    have F_85 := F_66.other W77 (Or.inl ne_bz2_yq21)
    have F_86 := F_67.other W77 (Or.inl ne_bz2_yq21)
    have F_87 := F_68.other W77 (Or.inl ne_bz2_yq21)
    have F_88 := F_69.other W77 (Or.inl ne_bz2_yq21)
    have Ex_89 := Ex_70.wr W77
    have F_90 := F_71.other W77 (Or.inl (Ne.symm ne_yq21_yq40))
    have F_91 := F_72.other W77 (Or.inl (Ne.symm ne_yq21_yq40))
    have F_92 := F_73.other W77 (Or.inl (Ne.symm ne_yq21_yq40))
    have F_93 := F_74.other W77 (Or.inl (Ne.symm ne_yq21_yq40))
    have O94 := O75.wr W77 own_sf
    have N77 := Fr.snoc X77 N58 gq21
    have K_95 : Keep h0 hz77 [] := K_76.wr W77 (Or.inr szq21)
    refine OGo.st st77 ?_
    show OGo p.tables e below _ (T77.setTop (mkF m 234 #[.val (.long q1), .second, .val (.int p2), .val (.int p3), .val (.int p4), .val (.int cI), .val (.int hI), .val (.long cnt), .second, .val (.int (0 : Int32)), .val (.ref pa), .val (.long (1 : Int64)), .second, .val (.ref bz2), .val (.ref yq21), .val (.int (1 : Int32)), .val (.ref yq40), .val (.int (1 : Int32)), .unset] []))
    refine OGo.st (fun _ k_ => XS.aload X77.here hx rfl (hb hby at_234) rfl rfl k_) ?_
    show OGo p.tables e below _ (T77.setTop (mkF m 236 #[.val (.long q1), .second, .val (.int p2), .val (.int p3), .val (.int p4), .val (.int cI), .val (.int hI), .val (.long cnt), .second, .val (.int (0 : Int32)), .val (.ref pa), .val (.long (1 : Int64)), .second, .val (.ref bz2), .val (.ref yq21), .val (.int (1 : Int32)), .val (.ref yq40), .val (.int (1 : Int32)), .unset] [(.ref bz2)]))
    obtain ⟨cq96, kqz96, qz96a, qz96b, qz96c⟩ := isOf hZ ez77 Ex_84
    obtain ⟨_, _, ⟨T96, Lz96, kz96, nz96⟩, -, X96, ⟨Lc96, hQ96, lz96, yz96, zz96⟩, st96⟩ := X77.virtualBack hx (y := (⟨"com/example/crivo/crivo/CountingParameters", "toFile", "()[J"⟩ : MethodName)) (z := (⟨"com/example/crivo/crivo/CountingParameters", "toFile", "()[J"⟩ : MethodName)) hown (mvT hZ (hw _ (List.mem_of_getElem? (i := 56) rfl))) (mvT hZ (hw _ (List.mem_of_getElem? (i := 57) rfl))) (notFace_of_selects (args := #[]) (mvT hZ (hw _ (List.mem_of_getElem? (i := 59) rfl)))) (mvT hZ (hw _ (List.mem_of_getElem? (i := 59) rfl))) (mvT hZ (hw _ (List.mem_of_getElem? (i := 58) rfl))) (by decide) (backOf (W := 0) (rm12 l Z a0 hw [] bz2 cnt hI cI pa (1 : Int32) hz77 n0 (Nat.le_trans Z0 K_95.1) F_85 F_86 F_87 F_88 F_81) hZ (hw _ (List.mem_of_getElem? (i := 60) rfl)) (hw _ (List.mem_of_getElem? (i := 7) rfl)) (by decide) (by decide)) qz96a qz96c (g := (mkF m 236 #[.val (.long q1), .second, .val (.int p2), .val (.int p3), .val (.int p4), .val (.int cI), .val (.int hI), .val (.long cnt), .second, .val (.int (0 : Int32)), .val (.ref pa), .val (.long (1 : Int64)), .second, .val (.ref bz2), .val (.ref yq21), .val (.int (1 : Int32)), .val (.ref yq40), .val (.int (1 : Int32)), .unset] [(.ref bz2)])) rfl (by rw [hml]; rfl) (Steps.refl _) (argsL := []) (rest := []) (lenOf own_pd9 rfl) rfl (by show 2 * 0 + _ ≤ _; exact Nat.le_of_eq rfl) (hb hby at_236) (fun _ _ => ⟨rfl, ez77, (by decide : 27 + 1 ≤ _), (by decide : 419 + 4 ≤ _)⟩)
    dsimp only [Pt.U, Pt.locs, Pt.cells, Pt.slots] at X96 lz96 yz96 zz96 st96 hQ96
    subst lz96 yz96 zz96
    obtain ⟨yq96, kq96, rfl, Nq96, Kq96, gq96, sq96, Aq96⟩ := hQ96
    have N96 := Fr.app N77 Nq96
    have ne_va_yq96 : va ≠ yq96 := Nat.ne_of_lt (Nat.lt_of_lt_of_le Ex_78.lt sq96)
    have ne_pa_yq96 : pa ≠ yq96 := Nat.ne_of_lt (Nat.lt_of_lt_of_le Ex_80.lt sq96)
    have ne_ca_yq96 : ca ≠ yq96 := Nat.ne_of_lt (Nat.lt_of_lt_of_le Ex_82.lt sq96)
    have ne_bz2_yq96 : bz2 ≠ yq96 := Nat.ne_of_lt (Nat.lt_of_lt_of_le Ex_84.lt sq96)
    have ne_yq40_yq96 : yq40 ≠ yq96 := Nat.ne_of_lt (Nat.lt_of_lt_of_le Ex_89.lt sq96)
    have ne_yq21_yq96 : yq21 ≠ yq96 := Nat.ne_of_lt (Nat.lt_of_lt_of_le V77.lt sq96)
    have szq96 : h0.size ≤ yq96 := Nat.le_trans K_95.1 sq96
    have Ex_97 := Ex_78.keep Kq96
    have Af_98 := Af_79.keep Kq96 nin0
    have Ex_99 := Ex_80.keep Kq96
    have F_100 := F_81.keep Kq96 nin0
    have Ex_101 := Ex_82.keep Kq96
    have F_102 := F_83.keep Kq96 nin0
    have Ex_103 := Ex_84.keep Kq96
    have F_104 := F_85.keep Kq96 nin0
    have F_105 := F_86.keep Kq96 nin0
    have F_106 := F_87.keep Kq96 nin0
    have F_107 := F_88.keep Kq96 nin0
    have Ex_108 := Ex_89.keep Kq96
    have F_109 := F_90.keep Kq96 nin0
    have F_110 := F_91.keep Kq96 nin0
    have F_111 := F_92.keep Kq96 nin0
    have F_112 := F_93.keep Kq96 nin0
    have Af_113 := V77.keep Kq96 nin0
    have hsk114 : ∀ x ∈ ([] : List Addr), Safe Z own_EL T40.vm hz77 x := all0
    have O114 := O94.keep Kq96 hsk114
    have K_115 : Keep h0 T96.heap [] := K_95.trans Kq96 all0
    refine OGo.tr st96 ?_
    show OGo p.tables e below _ (T96.setTop (mkF m 239 #[.val (.long q1), .second, .val (.int p2), .val (.int p3), .val (.int p4), .val (.int cI), .val (.int hI), .val (.long cnt), .second, .val (.int (0 : Int32)), .val (.ref pa), .val (.long (1 : Int64)), .second, .val (.ref bz2), .val (.ref yq21), .val (.int (1 : Int32)), .val (.ref yq40), .val (.int (1 : Int32)), .unset] [(.ref yq96)]))
    refine OGo.st (fun _ k_ => XS.astore X96.here hx rfl (hb hby at_239) rfl rfl (l' := #[.val (.long q1), .second, .val (.int p2), .val (.int p3), .val (.int p4), .val (.int cI), .val (.int hI), .val (.long cnt), .second, .val (.int (0 : Int32)), .val (.ref pa), .val (.long (1 : Int64)), .second, .val (.ref bz2), .val (.ref yq21), .val (.int (1 : Int32)), .val (.ref yq40), .val (.int (1 : Int32)), .val (.ref yq96)]) rfl k_) ?_
    show OGo p.tables e below _ (T96.setTop (mkF m 241 #[.val (.long q1), .second, .val (.int p2), .val (.int p3), .val (.int p4), .val (.int cI), .val (.int hI), .val (.long cnt), .second, .val (.int (0 : Int32)), .val (.ref pa), .val (.long (1 : Int64)), .second, .val (.ref bz2), .val (.ref yq21), .val (.int (1 : Int32)), .val (.ref yq40), .val (.int (1 : Int32)), .val (.ref yq96)] []))
    refine OGo.st (fun _ k_ => XS.iload X96.here hx rfl (hb hby at_241) rfl k_) ?_
    show OGo p.tables e below _ (T96.setTop (mkF m 243 #[.val (.long q1), .second, .val (.int p2), .val (.int p3), .val (.int p4), .val (.int cI), .val (.int hI), .val (.long cnt), .second, .val (.int (0 : Int32)), .val (.ref pa), .val (.long (1 : Int64)), .second, .val (.ref bz2), .val (.ref yq21), .val (.int (1 : Int32)), .val (.ref yq40), .val (.int (1 : Int32)), .val (.ref yq96)] [(.int (1 : Int32))]))
    refine OGo.st (fun _ k_ => XS.ifNo X96.here hx rfl (hb hby at_243) rfl (XT.i0_eq_f (by decide)) k_) ?_
    show OGo p.tables e below _ (T96.setTop (mkF m 246 #[.val (.long q1), .second, .val (.int p2), .val (.int p3), .val (.int p4), .val (.int cI), .val (.int hI), .val (.long cnt), .second, .val (.int (0 : Int32)), .val (.ref pa), .val (.long (1 : Int64)), .second, .val (.ref bz2), .val (.ref yq21), .val (.int (1 : Int32)), .val (.ref yq40), .val (.int (1 : Int32)), .val (.ref yq96)] []))
    refine OGo.st (fun _ k_ => XS.aload X96.here hx rfl (hb hby at_246) rfl rfl k_) ?_
    show OGo p.tables e below _ (T96.setTop (mkF m 248 #[.val (.long q1), .second, .val (.int p2), .val (.int p3), .val (.int p4), .val (.int cI), .val (.int hI), .val (.long cnt), .second, .val (.int (0 : Int32)), .val (.ref pa), .val (.long (1 : Int64)), .second, .val (.ref bz2), .val (.ref yq21), .val (.int (1 : Int32)), .val (.ref yq40), .val (.int (1 : Int32)), .val (.ref yq96)] [(.ref yq96)]))
    refine OGo.st (fun _ k_ => XT.nullNo X96.here hx rfl (hb hby at_248) rfl rfl (fun q => nomatch q) k_) ?_
    show OGo p.tables e below _ (T96.setTop (mkF m 251 #[.val (.long q1), .second, .val (.int p2), .val (.int p3), .val (.int p4), .val (.int cI), .val (.int hI), .val (.long cnt), .second, .val (.int (0 : Int32)), .val (.ref pa), .val (.long (1 : Int64)), .second, .val (.ref bz2), .val (.ref yq21), .val (.int (1 : Int32)), .val (.ref yq40), .val (.int (1 : Int32)), .val (.ref yq96)] []))
    refine OGo.st (fun _ k_ => XS.aload X96.here hx rfl (hb hby at_251) rfl rfl k_) ?_
    show OGo p.tables e below _ (T96.setTop (mkF m 253 #[.val (.long q1), .second, .val (.int p2), .val (.int p3), .val (.int p4), .val (.int cI), .val (.int hI), .val (.long cnt), .second, .val (.int (0 : Int32)), .val (.ref pa), .val (.long (1 : Int64)), .second, .val (.ref bz2), .val (.ref yq21), .val (.int (1 : Int32)), .val (.ref yq40), .val (.int (1 : Int32)), .val (.ref yq96)] [(.ref yq96)]))
    have qz116 := own_alen X96 hx hZ rfl Aq96 (g := (mkF m 253 #[.val (.long q1), .second, .val (.int p2), .val (.int p3), .val (.int p4), .val (.int cI), .val (.int hI), .val (.long cnt), .second, .val (.int (0 : Int32)), .val (.ref pa), .val (.long (1 : Int64)), .second, .val (.ref bz2), .val (.ref yq21), .val (.int (1 : Int32)), .val (.ref yq40), .val (.int (1 : Int32)), .val (.ref yq96)] [(.ref yq96)])) rfl rfl (hb hby at_253)
    refine OGo.st qz116 ?_
    show OGo p.tables e below _ (T96.setTop (mkF m 254 #[.val (.long q1), .second, .val (.int p2), .val (.int p3), .val (.int p4), .val (.int cI), .val (.int hI), .val (.long cnt), .second, .val (.int (0 : Int32)), .val (.ref pa), .val (.long (1 : Int64)), .second, .val (.ref bz2), .val (.ref yq21), .val (.int (1 : Int32)), .val (.ref yq40), .val (.int (1 : Int32)), .val (.ref yq96)] [(.int (4 : Int32))]))
    refine OGo.st (fun _ k_ => XS.iconst X96.here hx rfl (hb hby at_254) k_) ?_
    show OGo p.tables e below _ (T96.setTop (mkF m 255 #[.val (.long q1), .second, .val (.int p2), .val (.int p3), .val (.int p4), .val (.int cI), .val (.int hI), .val (.long cnt), .second, .val (.int (0 : Int32)), .val (.ref pa), .val (.long (1 : Int64)), .second, .val (.ref bz2), .val (.ref yq21), .val (.int (1 : Int32)), .val (.ref yq40), .val (.int (1 : Int32)), .val (.ref yq96)] [(.int (4 : Int32)), (.int (4 : Int32))]))
    refine OGo.st (fun _ k_ => XS.icmpNo X96.here hx rfl (hb hby at_255) rfl (XT.ii_ne_f (by decide)) k_) ?_
    show OGo p.tables e below _ (T96.setTop (mkF m 258 #[.val (.long q1), .second, .val (.int p2), .val (.int p3), .val (.int p4), .val (.int cI), .val (.int hI), .val (.long cnt), .second, .val (.int (0 : Int32)), .val (.ref pa), .val (.long (1 : Int64)), .second, .val (.ref bz2), .val (.ref yq21), .val (.int (1 : Int32)), .val (.ref yq40), .val (.int (1 : Int32)), .val (.ref yq96)] []))
    refine OGo.st (fun _ k_ => XS.aload X96.here hx rfl (hb hby at_258) rfl rfl k_) ?_
    show OGo p.tables e below _ (T96.setTop (mkF m 260 #[.val (.long q1), .second, .val (.int p2), .val (.int p3), .val (.int p4), .val (.int cI), .val (.int hI), .val (.long cnt), .second, .val (.int (0 : Int32)), .val (.ref pa), .val (.long (1 : Int64)), .second, .val (.ref bz2), .val (.ref yq21), .val (.int (1 : Int32)), .val (.ref yq40), .val (.int (1 : Int32)), .val (.ref yq96)] [(.ref yq96)]))
    refine OGo.st (fun _ k_ => XS.iconst X96.here hx rfl (hb hby at_260) k_) ?_
    show OGo p.tables e below _ (T96.setTop (mkF m 261 #[.val (.long q1), .second, .val (.int p2), .val (.int p3), .val (.int p4), .val (.int cI), .val (.int hI), .val (.long cnt), .second, .val (.int (0 : Int32)), .val (.ref pa), .val (.long (1 : Int64)), .second, .val (.ref bz2), .val (.ref yq21), .val (.int (1 : Int32)), .val (.ref yq40), .val (.int (1 : Int32)), .val (.ref yq96)] [(.int (0 : Int32)), (.ref yq96)]))
    have qz117 := own_ldJ X96 hx hZ rfl Aq96 (j := (0 : Int32)) (v := cnt) (by decide) rfl (g := (mkF m 261 #[.val (.long q1), .second, .val (.int p2), .val (.int p3), .val (.int p4), .val (.int cI), .val (.int hI), .val (.long cnt), .second, .val (.int (0 : Int32)), .val (.ref pa), .val (.long (1 : Int64)), .second, .val (.ref bz2), .val (.ref yq21), .val (.int (1 : Int32)), .val (.ref yq40), .val (.int (1 : Int32)), .val (.ref yq96)] [(.int (0 : Int32)), (.ref yq96)])) rfl rfl (hb hby at_261)
    refine OGo.st qz117 ?_
    show OGo p.tables e below _ (T96.setTop (mkF m 262 #[.val (.long q1), .second, .val (.int p2), .val (.int p3), .val (.int p4), .val (.int cI), .val (.int hI), .val (.long cnt), .second, .val (.int (0 : Int32)), .val (.ref pa), .val (.long (1 : Int64)), .second, .val (.ref bz2), .val (.ref yq21), .val (.int (1 : Int32)), .val (.ref yq40), .val (.int (1 : Int32)), .val (.ref yq96)] [(.long cnt)]))
    refine OGo.st (fun _ k_ => XS.lload X96.here hx rfl (hb hby at_262) rfl k_) ?_
    show OGo p.tables e below _ (T96.setTop (mkF m 264 #[.val (.long q1), .second, .val (.int p2), .val (.int p3), .val (.int p4), .val (.int cI), .val (.int hI), .val (.long cnt), .second, .val (.int (0 : Int32)), .val (.ref pa), .val (.long (1 : Int64)), .second, .val (.ref bz2), .val (.ref yq21), .val (.int (1 : Int32)), .val (.ref yq40), .val (.int (1 : Int32)), .val (.ref yq96)] [(.long cnt), (.long cnt)]))
    refine OGo.st (fun _ k_ => XT.lcmp X96.here hx rfl (hb hby at_264) rfl k_) ?_
    show OGo p.tables e below _ (T96.setTop (mkF m 265 #[.val (.long q1), .second, .val (.int p2), .val (.int p3), .val (.int p4), .val (.int cI), .val (.int hI), .val (.long cnt), .second, .val (.int (0 : Int32)), .val (.ref pa), .val (.long (1 : Int64)), .second, .val (.ref bz2), .val (.ref yq21), .val (.int (1 : Int32)), .val (.ref yq40), .val (.int (1 : Int32)), .val (.ref yq96)] [(.int (XT.cmpL cnt cnt))]))
    refine OGo.st (fun _ k_ => XS.ifNo X96.here hx rfl (hb hby at_265) rfl (XT.ll_ne_f (by first | rfl | decide)) k_) ?_
    show OGo p.tables e below _ (T96.setTop (mkF m 268 #[.val (.long q1), .second, .val (.int p2), .val (.int p3), .val (.int p4), .val (.int cI), .val (.int hI), .val (.long cnt), .second, .val (.int (0 : Int32)), .val (.ref pa), .val (.long (1 : Int64)), .second, .val (.ref bz2), .val (.ref yq21), .val (.int (1 : Int32)), .val (.ref yq40), .val (.int (1 : Int32)), .val (.ref yq96)] []))
    refine OGo.st (fun _ k_ => XS.aload X96.here hx rfl (hb hby at_268) rfl rfl k_) ?_
    show OGo p.tables e below _ (T96.setTop (mkF m 270 #[.val (.long q1), .second, .val (.int p2), .val (.int p3), .val (.int p4), .val (.int cI), .val (.int hI), .val (.long cnt), .second, .val (.int (0 : Int32)), .val (.ref pa), .val (.long (1 : Int64)), .second, .val (.ref bz2), .val (.ref yq21), .val (.int (1 : Int32)), .val (.ref yq40), .val (.int (1 : Int32)), .val (.ref yq96)] [(.ref yq96)]))
    refine OGo.st (fun _ k_ => XS.iconst X96.here hx rfl (hb hby at_270) k_) ?_
    show OGo p.tables e below _ (T96.setTop (mkF m 271 #[.val (.long q1), .second, .val (.int p2), .val (.int p3), .val (.int p4), .val (.int cI), .val (.int hI), .val (.long cnt), .second, .val (.int (0 : Int32)), .val (.ref pa), .val (.long (1 : Int64)), .second, .val (.ref bz2), .val (.ref yq21), .val (.int (1 : Int32)), .val (.ref yq40), .val (.int (1 : Int32)), .val (.ref yq96)] [(.int (3 : Int32)), (.ref yq96)]))
    have qz118 := own_ldJ X96 hx hZ rfl Aq96 (j := (3 : Int32)) (v := (1 : Int32).toInt64) (by decide) rfl (g := (mkF m 271 #[.val (.long q1), .second, .val (.int p2), .val (.int p3), .val (.int p4), .val (.int cI), .val (.int hI), .val (.long cnt), .second, .val (.int (0 : Int32)), .val (.ref pa), .val (.long (1 : Int64)), .second, .val (.ref bz2), .val (.ref yq21), .val (.int (1 : Int32)), .val (.ref yq40), .val (.int (1 : Int32)), .val (.ref yq96)] [(.int (3 : Int32)), (.ref yq96)])) rfl rfl (hb hby at_271)
    refine OGo.st qz118 ?_
    show OGo p.tables e below _ (T96.setTop (mkF m 272 #[.val (.long q1), .second, .val (.int p2), .val (.int p3), .val (.int p4), .val (.int cI), .val (.int hI), .val (.long cnt), .second, .val (.int (0 : Int32)), .val (.ref pa), .val (.long (1 : Int64)), .second, .val (.ref bz2), .val (.ref yq21), .val (.int (1 : Int32)), .val (.ref yq40), .val (.int (1 : Int32)), .val (.ref yq96)] [(.long (1 : Int32).toInt64)]))
    refine OGo.st (fun _ k_ => XS.lload X96.here hx rfl (hb hby at_272) rfl k_) ?_
    show OGo p.tables e below _ (T96.setTop (mkF m 274 #[.val (.long q1), .second, .val (.int p2), .val (.int p3), .val (.int p4), .val (.int cI), .val (.int hI), .val (.long cnt), .second, .val (.int (0 : Int32)), .val (.ref pa), .val (.long (1 : Int64)), .second, .val (.ref bz2), .val (.ref yq21), .val (.int (1 : Int32)), .val (.ref yq40), .val (.int (1 : Int32)), .val (.ref yq96)] [(.long (1 : Int64)), (.long (1 : Int32).toInt64)]))
    refine OGo.st (fun _ k_ => XT.lcmp X96.here hx rfl (hb hby at_274) rfl k_) ?_
    show OGo p.tables e below _ (T96.setTop (mkF m 275 #[.val (.long q1), .second, .val (.int p2), .val (.int p3), .val (.int p4), .val (.int cI), .val (.int hI), .val (.long cnt), .second, .val (.int (0 : Int32)), .val (.ref pa), .val (.long (1 : Int64)), .second, .val (.ref bz2), .val (.ref yq21), .val (.int (1 : Int32)), .val (.ref yq40), .val (.int (1 : Int32)), .val (.ref yq96)] [(.int (XT.cmpL (1 : Int32).toInt64 (1 : Int64)))]))
    refine OGo.st (fun _ k_ => XS.ifNo X96.here hx rfl (hb hby at_275) rfl (XT.ll_ne_f (by first | rfl | decide)) k_) ?_
    show OGo p.tables e below _ (T96.setTop (mkF m 278 #[.val (.long q1), .second, .val (.int p2), .val (.int p3), .val (.int p4), .val (.int cI), .val (.int hI), .val (.long cnt), .second, .val (.int (0 : Int32)), .val (.ref pa), .val (.long (1 : Int64)), .second, .val (.ref bz2), .val (.ref yq21), .val (.int (1 : Int32)), .val (.ref yq40), .val (.int (1 : Int32)), .val (.ref yq96)] []))
    refine OGo.st (fun _ k_ => XS.iconst X96.here hx rfl (hb hby at_278) k_) ?_
    show OGo p.tables e below _ (T96.setTop (mkF m 279 #[.val (.long q1), .second, .val (.int p2), .val (.int p3), .val (.int p4), .val (.int cI), .val (.int hI), .val (.long cnt), .second, .val (.int (0 : Int32)), .val (.ref pa), .val (.long (1 : Int64)), .second, .val (.ref bz2), .val (.ref yq21), .val (.int (1 : Int32)), .val (.ref yq40), .val (.int (1 : Int32)), .val (.ref yq96)] [(.int (1 : Int32))]))
    refine OGo.st (fun _ k_ => XS.goto X96.here hx rfl (pc0 := 279) (pc' := 283) rfl (hb hby at_279) (by decide) (by decide) k_) ?_
    show OGo p.tables e below _ (T96.setTop (mkF m 283 #[.val (.long q1), .second, .val (.int p2), .val (.int p3), .val (.int p4), .val (.int cI), .val (.int hI), .val (.long cnt), .second, .val (.int (0 : Int32)), .val (.ref pa), .val (.long (1 : Int64)), .second, .val (.ref bz2), .val (.ref yq21), .val (.int (1 : Int32)), .val (.ref yq40), .val (.int (1 : Int32)), .val (.ref yq96)] [(.int (1 : Int32))]))
    refine OGo.finS X96 rfl O114 (own_EW hw) hh (v := some (.int (1 : Int32))) (fun h => by rw [Bd.returns] at h; cases h) hlk (fun fs hr => X96.ireturnOut hx Bd.returns rfl (by simp) (hb hby at_283) hr) ?_ (by decide) (by decide)
    show own_Q_rm0 Z q1 p2 p3 p4 va k pa ca h0 n0 _ T96.heap _
    skip
    exact ⟨rfl, N96⟩
  · refine OGo.st (fun _ k_ => XS.ifNo X0.here hx rfl (hb hby at_37) rfl (XT.i0_eq_f hc37) k_) ?_
    show OGo p.tables e below _ (s₁.setTop (mkF m 40 #[.val (.long q1), .second, .val (.int p2), .val (.int p3), .val (.int p4), .val (.int cI), .val (.int hI), .val (.long cnt), .second, .unset, .unset, .unset, .unset, .unset, .unset, .unset, .unset, .unset, .unset] []))
    refine OGo.st (fun _ k_ => XS.iconst X0.here hx rfl (hb hby at_40) k_) ?_
    show OGo p.tables e below _ (s₁.setTop (mkF m 41 #[.val (.long q1), .second, .val (.int p2), .val (.int p3), .val (.int p4), .val (.int cI), .val (.int hI), .val (.long cnt), .second, .unset, .unset, .unset, .unset, .unset, .unset, .unset, .unset, .unset, .unset] [(.int (1 : Int32))]))
    refine OGo.st (fun _ k_ => XS.goto X0.here hx rfl (pc0 := 41) (pc' := 45) rfl (hb hby at_41) (by decide) (by decide) k_) ?_
    show OGo p.tables e below _ (s₁.setTop (mkF m 45 #[.val (.long q1), .second, .val (.int p2), .val (.int p3), .val (.int p4), .val (.int cI), .val (.int hI), .val (.long cnt), .second, .unset, .unset, .unset, .unset, .unset, .unset, .unset, .unset, .unset, .unset] [(.int (1 : Int32))]))
    refine OGo.st (fun _ k_ => XS.istore X0.here hx rfl (hb hby at_45) rfl (l' := #[.val (.long q1), .second, .val (.int p2), .val (.int p3), .val (.int p4), .val (.int cI), .val (.int hI), .val (.long cnt), .second, .val (.int (1 : Int32)), .unset, .unset, .unset, .unset, .unset, .unset, .unset, .unset, .unset]) rfl k_) ?_
    show OGo p.tables e below _ (s₁.setTop (mkF m 47 #[.val (.long q1), .second, .val (.int p2), .val (.int p3), .val (.int p4), .val (.int cI), .val (.int hI), .val (.long cnt), .second, .val (.int (1 : Int32)), .unset, .unset, .unset, .unset, .unset, .unset, .unset, .unset, .unset] []))
    refine OGo.st (fun _ k_ => XS.iload X0.here hx rfl (hb hby at_47) rfl k_) ?_
    show OGo p.tables e below _ (s₁.setTop (mkF m 49 #[.val (.long q1), .second, .val (.int p2), .val (.int p3), .val (.int p4), .val (.int cI), .val (.int hI), .val (.long cnt), .second, .val (.int (1 : Int32)), .unset, .unset, .unset, .unset, .unset, .unset, .unset, .unset, .unset] [(.int (1 : Int32))]))
    refine OGo.st (fun _ k_ => XS.ifNo X0.here hx rfl (hb hby at_49) rfl (XT.i0_eq_f (by decide)) k_) ?_
    show OGo p.tables e below _ (s₁.setTop (mkF m 52 #[.val (.long q1), .second, .val (.int p2), .val (.int p3), .val (.int p4), .val (.int cI), .val (.int hI), .val (.long cnt), .second, .val (.int (1 : Int32)), .unset, .unset, .unset, .unset, .unset, .unset, .unset, .unset, .unset] []))
    obtain ⟨T119, X119, ez119, st119⟩ := getS X0 hx hZ hown (host := "") (hw _ (List.mem_of_getElem? (i := 123) rfl)) Via.refl e0 S_ca (g := (mkF m 52 #[.val (.long q1), .second, .val (.int p2), .val (.int p3), .val (.int p4), .val (.int cI), .val (.int hI), .val (.long cnt), .second, .val (.int (1 : Int32)), .unset, .unset, .unset, .unset, .unset, .unset, .unset, .unset, .unset] [])) rfl (hb hby at_52)
    refine OGo.st st119 ?_
    show OGo p.tables e below _ (T119.setTop (mkF m 55 #[.val (.long q1), .second, .val (.int p2), .val (.int p3), .val (.int p4), .val (.int cI), .val (.int hI), .val (.long cnt), .second, .val (.int (1 : Int32)), .unset, .unset, .unset, .unset, .unset, .unset, .unset, .unset, .unset] [(.ref ca)]))
    refine OGo.st (fun _ k_ => XS.goto X119.here hx rfl (pc0 := 55) (pc' := 61) rfl (hb hby at_55) (by decide) (by decide) k_) ?_
    show OGo p.tables e below _ (T119.setTop (mkF m 61 #[.val (.long q1), .second, .val (.int p2), .val (.int p3), .val (.int p4), .val (.int cI), .val (.int hI), .val (.long cnt), .second, .val (.int (1 : Int32)), .unset, .unset, .unset, .unset, .unset, .unset, .unset, .unset, .unset] [(.ref ca)]))
    refine OGo.st (fun _ k_ => XS.astore X119.here hx rfl (hb hby at_61) rfl rfl (l' := #[.val (.long q1), .second, .val (.int p2), .val (.int p3), .val (.int p4), .val (.int cI), .val (.int hI), .val (.long cnt), .second, .val (.int (1 : Int32)), .val (.ref ca), .unset, .unset, .unset, .unset, .unset, .unset, .unset, .unset]) rfl k_) ?_
    show OGo p.tables e below _ (T119.setTop (mkF m 63 #[.val (.long q1), .second, .val (.int p2), .val (.int p3), .val (.int p4), .val (.int cI), .val (.int hI), .val (.long cnt), .second, .val (.int (1 : Int32)), .val (.ref ca), .unset, .unset, .unset, .unset, .unset, .unset, .unset, .unset] []))
    refine OGo.st (fun _ k_ => XS.iload X119.here hx rfl (hb hby at_63) rfl k_) ?_
    show OGo p.tables e below _ (T119.setTop (mkF m 65 #[.val (.long q1), .second, .val (.int p2), .val (.int p3), .val (.int p4), .val (.int cI), .val (.int hI), .val (.long cnt), .second, .val (.int (1 : Int32)), .val (.ref ca), .unset, .unset, .unset, .unset, .unset, .unset, .unset, .unset] [(.int (1 : Int32))]))
    refine OGo.st (fun _ k_ => XS.ifNo X119.here hx rfl (hb hby at_65) rfl (XT.i0_eq_f (by decide)) k_) ?_
    show OGo p.tables e below _ (T119.setTop (mkF m 68 #[.val (.long q1), .second, .val (.int p2), .val (.int p3), .val (.int p4), .val (.int cI), .val (.int hI), .val (.long cnt), .second, .val (.int (1 : Int32)), .val (.ref ca), .unset, .unset, .unset, .unset, .unset, .unset, .unset, .unset] []))
    refine OGo.st (fun _ k_ => X119.ldc2J hx hown (mvT hZ (hw _ (List.mem_of_getElem? (i := 124) rfl))) rfl (hb hby at_68) k_) ?_
    show OGo p.tables e below _ (T119.setTop (mkF m 71 #[.val (.long q1), .second, .val (.int p2), .val (.int p3), .val (.int p4), .val (.int cI), .val (.int hI), .val (.long cnt), .second, .val (.int (1 : Int32)), .val (.ref ca), .unset, .unset, .unset, .unset, .unset, .unset, .unset, .unset] [(.long (2 : Int64))]))
    refine OGo.st (fun _ k_ => XS.goto X119.here hx rfl (pc0 := 71) (pc' := 75) rfl (hb hby at_71) (by decide) (by decide) k_) ?_
    show OGo p.tables e below _ (T119.setTop (mkF m 75 #[.val (.long q1), .second, .val (.int p2), .val (.int p3), .val (.int p4), .val (.int cI), .val (.int hI), .val (.long cnt), .second, .val (.int (1 : Int32)), .val (.ref ca), .unset, .unset, .unset, .unset, .unset, .unset, .unset, .unset] [(.long (2 : Int64))]))
    refine OGo.st (fun _ k_ => XS.lstore X119.here hx rfl (hb hby at_75) rfl (l' := #[.val (.long q1), .second, .val (.int p2), .val (.int p3), .val (.int p4), .val (.int cI), .val (.int hI), .val (.long cnt), .second, .val (.int (1 : Int32)), .val (.ref ca), .val (.long (2 : Int64)), .second, .unset, .unset, .unset, .unset, .unset, .unset]) rfl k_) ?_
    show OGo p.tables e below _ (T119.setTop (mkF m 77 #[.val (.long q1), .second, .val (.int p2), .val (.int p3), .val (.int p4), .val (.int cI), .val (.int hI), .val (.long cnt), .second, .val (.int (1 : Int32)), .val (.ref ca), .val (.long (2 : Int64)), .second, .unset, .unset, .unset, .unset, .unset, .unset] []))
    obtain ⟨T120, hz120, X120, ez120, Ez120, Az120, Dz120, -, st120⟩ := newO X119 hx hZ hown (hw _ (List.mem_of_getElem? (i := 5) rfl)) (hw _ (List.mem_of_getElem? (i := 6) rfl)) (hw _ (List.mem_of_getElem? (i := 7) rfl)) ez119 (g := (mkF m 77 #[.val (.long q1), .second, .val (.int p2), .val (.int p3), .val (.int p4), .val (.int cI), .val (.int hI), .val (.long cnt), .second, .val (.int (1 : Int32)), .val (.ref ca), .val (.long (2 : Int64)), .second, .unset, .unset, .unset, .unset, .unset, .unset] [])) rfl (hb hby at_77) (by decide) (by decide)
    obtain ⟨bz120, g120⟩ : ∃ z, z = h0.size := ⟨_, rfl⟩
    rw [← g120] at Az120 Dz120 st120
    have lt_va_bz120 : @LT.lt Nat instLTNat va bz120 := Nat.lt_of_lt_of_le E_va.lt (Nat.le_of_eq g120.symm)
    have lt_pa_bz120 : @LT.lt Nat instLTNat pa bz120 := Nat.lt_of_lt_of_le E_pa.lt (Nat.le_of_eq g120.symm)
    have lt_ca_bz120 : @LT.lt Nat instLTNat ca bz120 := Nat.lt_of_lt_of_le E_ca.lt (Nat.le_of_eq g120.symm)
    have g_bz120 : n0 ≤ bz120 := Nat.le_trans (Nat.le_trans Z0 (Keep.refl h0 []).1) (Nat.le_of_eq g120.symm)
    have sz_bz120 : h0.size ≤ bz120 := Nat.le_trans (Keep.refl h0 []).1 (Nat.le_of_eq g120.symm)
    have Ex_121 := E_va.ext Ez120
    have Af_122 := A_va.ext Ez120
    have Ex_123 := E_pa.ext Ez120
    have F_124 := F_code_pa.ext Ez120
    have Ex_125 := E_ca.ext Ez120
    have F_126 := F_code_ca.ext Ez120
    have O127 := O0.ext Ez120
    have K_128 : Keep h0 hz120 [] := (Keep.refl h0 []).ext Ez120
    have Sf129 : Safe Z own_EL s.vm hz120 bz120 := Safe.ext Ez120 O0.r.1 (Safe.new (Nat.le_of_eq g120.symm))
    have F_counters_120 : Fld Z hz120 bz120 "com/example/crivo/crivo/CountingParameters" "counters" "J" (.long (0 : Int64)) := Dz120 (Or.inr (hw _ (List.mem_of_getElem? (i := 49) rfl))) (ty := .long) (by decide)
    have F_hashes_120 : Fld Z hz120 bz120 "com/example/crivo/crivo/CountingParameters" "hashes" "I" (.int (0 : Int32)) := Dz120 (Or.inr (hw _ (List.mem_of_getElem? (i := 51) rfl))) (ty := .int) (by decide)
    have F_counterBits_120 : Fld Z hz120 bz120 "com/example/crivo/crivo/CountingParameters" "counterBits" "I" (.int (0 : Int32)) := Dz120 (Or.inr (hw _ (List.mem_of_getElem? (i := 53) rfl))) (ty := .int) (by decide)
    have F_update_120 : Fld Z hz120 bz120 "com/example/crivo/crivo/CountingParameters" "update" "Lcom/example/crivo/crivo/UpdateRule;" .null := Dz120 (Or.inr (hw _ (List.mem_of_getElem? (i := 55) rfl))) (ty := (.object "com/example/crivo/crivo/UpdateRule")) (by decide)
    refine OGo.st st120 ?_
    show OGo p.tables e below _ (T120.setTop (mkF m 80 #[.val (.long q1), .second, .val (.int p2), .val (.int p3), .val (.int p4), .val (.int cI), .val (.int hI), .val (.long cnt), .second, .val (.int (1 : Int32)), .val (.ref ca), .val (.long (2 : Int64)), .second, .unset, .unset, .unset, .unset, .unset, .unset] [(.ref bz120)]))
    refine OGo.st (fun _ k_ => XS.dup X120.here hx rfl (hb hby at_80) rfl rfl k_) ?_
    show OGo p.tables e below _ (T120.setTop (mkF m 81 #[.val (.long q1), .second, .val (.int p2), .val (.int p3), .val (.int p4), .val (.int cI), .val (.int hI), .val (.long cnt), .second, .val (.int (1 : Int32)), .val (.ref ca), .val (.long (2 : Int64)), .second, .unset, .unset, .unset, .unset, .unset, .unset] [(.ref bz120), (.ref bz120)]))
    refine OGo.st (fun _ k_ => XS.lload X120.here hx rfl (hb hby at_81) rfl k_) ?_
    show OGo p.tables e below _ (T120.setTop (mkF m 83 #[.val (.long q1), .second, .val (.int p2), .val (.int p3), .val (.int p4), .val (.int cI), .val (.int hI), .val (.long cnt), .second, .val (.int (1 : Int32)), .val (.ref ca), .val (.long (2 : Int64)), .second, .unset, .unset, .unset, .unset, .unset, .unset] [(.long cnt), (.ref bz120), (.ref bz120)]))
    refine OGo.st (fun _ k_ => XS.iload X120.here hx rfl (hb hby at_83) rfl k_) ?_
    show OGo p.tables e below _ (T120.setTop (mkF m 85 #[.val (.long q1), .second, .val (.int p2), .val (.int p3), .val (.int p4), .val (.int cI), .val (.int hI), .val (.long cnt), .second, .val (.int (1 : Int32)), .val (.ref ca), .val (.long (2 : Int64)), .second, .unset, .unset, .unset, .unset, .unset, .unset] [(.int hI), (.long cnt), (.ref bz120), (.ref bz120)]))
    refine OGo.st (fun _ k_ => XS.iload X120.here hx rfl (hb hby at_85) rfl k_) ?_
    show OGo p.tables e below _ (T120.setTop (mkF m 87 #[.val (.long q1), .second, .val (.int p2), .val (.int p3), .val (.int p4), .val (.int cI), .val (.int hI), .val (.long cnt), .second, .val (.int (1 : Int32)), .val (.ref ca), .val (.long (2 : Int64)), .second, .unset, .unset, .unset, .unset, .unset, .unset] [(.int cI), (.int hI), (.long cnt), (.ref bz120), (.ref bz120)]))
    refine OGo.st (fun _ k_ => XS.aload X120.here hx rfl (hb hby at_87) rfl rfl k_) ?_
    show OGo p.tables e below _ (T120.setTop (mkF m 89 #[.val (.long q1), .second, .val (.int p2), .val (.int p3), .val (.int p4), .val (.int cI), .val (.int hI), .val (.long cnt), .second, .val (.int (1 : Int32)), .val (.ref ca), .val (.long (2 : Int64)), .second, .unset, .unset, .unset, .unset, .unset, .unset] [(.ref ca), (.int cI), (.int hI), (.long cnt), (.ref bz120), (.ref bz120)]))
    have hsc130 : ∀ x ∈ ([] : List Addr), x < hz120.size ∧ Safe Z own_EL s.vm hz120 x := all0
    obtain ⟨_, _, ⟨T130, Lz130, kz130, nz130⟩, -, X130, sn130, gn130, ⟨Lc130, hQ130, lz130, yz130, zz130, cr130⟩, st130⟩ := X120.specialBackS hx (y := (⟨"com/example/crivo/crivo/CountingParameters", "<init>", "(JIILcom/example/crivo/crivo/UpdateRule;)V"⟩ : MethodName)) rfl hown (mvT hZ (hw _ (List.mem_of_getElem? (i := 8) rfl))) (mvT hZ (hw _ (List.mem_of_getElem? (i := 9) rfl))) (mvT hZ (hw _ (List.mem_of_getElem? (i := 10) rfl))) (by decide) (own_backSH (W := 1) (rm6 l Z a0 hw [] bz120 cnt hI cI ca hz120 n0 (Nat.le_trans Z0 K_128.1) hcI_.1 hcI_.2.1 hcnt_.1 hcnt_.2 hcI_.2.2.1 hhI_.1 hhI_.2 Az120 F_counters_120 F_hashes_120 F_counterBits_120 F_update_120 g_bz120) hZ (hw _ (List.mem_of_getElem? (i := 10) rfl)) (hw _ (List.mem_of_getElem? (i := 7) rfl)) (by decide) (by decide) (own_EW hw) O127.r.1 hsc130) (g := (mkF m 89 #[.val (.long q1), .second, .val (.int p2), .val (.int p3), .val (.int p4), .val (.int cI), .val (.int hI), .val (.long cnt), .second, .val (.int (1 : Int32)), .val (.ref ca), .val (.long (2 : Int64)), .second, .unset, .unset, .unset, .unset, .unset, .unset] [(.ref ca), (.int cI), (.int hI), (.long cnt), (.ref bz120), (.ref bz120)])) rfl (by rw [hml]; rfl) (Steps.refl _) (a := bz120) (argsL := [(.long cnt), (.int hI), (.int cI), (.ref ca)]) (rest := [(.ref bz120)]) (lenOf own_pd8 rfl) rfl (by show 2 * 0 + _ ≤ _; exact Nat.le_of_eq rfl) (hb hby at_89) (fun _ _ => ⟨rfl, ez120, (by decide : 1 + 8 ≤ _), (by decide : 4 + 144 ≤ _)⟩)
    dsimp only [Pt.U, Pt.locs, Pt.cells, Pt.slots] at X130 sn130 gn130 lz130 yz130 zz130 cr130 st130 hQ130
    subst lz130 yz130 zz130
    have O130 := O127.call sn130 ez120 gn130 cr130
    have X130 : Stand p l e room_1 (s.setVm T130.vm) m #[(.long q1), (.int p2), (.int p3), (.int p4)] below meth c T130 _ _ _ := X130
    have hZ := O130.z
    have hown := O130.o
    obtain ⟨rfl, Nq130, Kq130, qz130_0, qz130_1, qz130_2, qz130_3⟩ := hQ130
    have N130 := Fr.app N0 Nq130
    have Ex_131 := Ex_121.keep Kq130
    have Af_132 := Af_122.keep Kq130 (ninS (Nat.ne_of_lt lt_va_bz120) nin0)
    have Ex_133 := Ex_123.keep Kq130
    have F_134 := F_124.keep Kq130 (ninS (Nat.ne_of_lt lt_pa_bz120) nin0)
    have Ex_135 := Ex_125.keep Kq130
    have F_136 := F_126.keep Kq130 (ninS (Nat.ne_of_lt lt_ca_bz120) nin0)
    have Ex_137 := Az120.keep Kq130
    have K_138 : Keep h0 T130.heap [] := K_128.trans Kq130 (allS (Or.inr sz_bz120) all0)
    refine OGo.tr st130 ?_
    show OGo p.tables e below _ (T130.setTop (mkF m 92 #[.val (.long q1), .second, .val (.int p2), .val (.int p3), .val (.int p4), .val (.int cI), .val (.int hI), .val (.long cnt), .second, .val (.int (1 : Int32)), .val (.ref ca), .val (.long (2 : Int64)), .second, .unset, .unset, .unset, .unset, .unset, .unset] [(.ref bz120)]))
    refine OGo.st (fun _ k_ => XS.astore X130.here hx rfl (hb hby at_92) rfl rfl (l' := #[.val (.long q1), .second, .val (.int p2), .val (.int p3), .val (.int p4), .val (.int cI), .val (.int hI), .val (.long cnt), .second, .val (.int (1 : Int32)), .val (.ref ca), .val (.long (2 : Int64)), .second, .val (.ref bz120), .unset, .unset, .unset, .unset, .unset]) rfl k_) ?_
    show OGo p.tables e below _ (T130.setTop (mkF m 94 #[.val (.long q1), .second, .val (.int p2), .val (.int p3), .val (.int p4), .val (.int cI), .val (.int hI), .val (.long cnt), .second, .val (.int (1 : Int32)), .val (.ref ca), .val (.long (2 : Int64)), .second, .val (.ref bz120), .unset, .unset, .unset, .unset, .unset] []))
    refine OGo.st (fun _ k_ => XS.aload X130.here hx rfl (hb hby at_94) rfl rfl k_) ?_
    show OGo p.tables e below _ (T130.setTop (mkF m 96 #[.val (.long q1), .second, .val (.int p2), .val (.int p3), .val (.int p4), .val (.int cI), .val (.int hI), .val (.long cnt), .second, .val (.int (1 : Int32)), .val (.ref ca), .val (.long (2 : Int64)), .second, .val (.ref bz120), .unset, .unset, .unset, .unset, .unset] [(.ref bz120)]))
    obtain ⟨cq139, kqz139, qz139a, qz139b, qz139c⟩ := isOf hZ rfl Ex_137
    obtain ⟨_, _, ⟨T139, Lz139, kz139, nz139⟩, -, X139, ⟨Lc139, hQ139, lz139, yz139, zz139⟩, st139⟩ := X130.virtualBack hx (y := (⟨"com/example/crivo/crivo/CountingParameters", "toFile", "()[J"⟩ : MethodName)) (z := (⟨"com/example/crivo/crivo/CountingParameters", "toFile", "()[J"⟩ : MethodName)) hown (mvT hZ (hw _ (List.mem_of_getElem? (i := 56) rfl))) (mvT hZ (hw _ (List.mem_of_getElem? (i := 57) rfl))) (notFace_of_selects (args := #[]) (mvT hZ (hw _ (List.mem_of_getElem? (i := 59) rfl)))) (mvT hZ (hw _ (List.mem_of_getElem? (i := 59) rfl))) (mvT hZ (hw _ (List.mem_of_getElem? (i := 58) rfl))) (by decide) (backOf (W := 0) (rm12 l Z a0 hw [] bz120 cnt hI cI ca (2 : Int32) T130.heap n0 (Nat.le_trans Z0 K_138.1) qz130_0 qz130_1 qz130_2 qz130_3 F_136) hZ (hw _ (List.mem_of_getElem? (i := 60) rfl)) (hw _ (List.mem_of_getElem? (i := 7) rfl)) (by decide) (by decide)) qz139a qz139c (g := (mkF m 96 #[.val (.long q1), .second, .val (.int p2), .val (.int p3), .val (.int p4), .val (.int cI), .val (.int hI), .val (.long cnt), .second, .val (.int (1 : Int32)), .val (.ref ca), .val (.long (2 : Int64)), .second, .val (.ref bz120), .unset, .unset, .unset, .unset, .unset] [(.ref bz120)])) rfl (by rw [hml]; rfl) (Steps.refl _) (argsL := []) (rest := []) (lenOf own_pd9 rfl) rfl (by show 2 * 0 + _ ≤ _; exact Nat.le_of_eq rfl) (hb hby at_96) (fun _ _ => ⟨rfl, rfl, (by decide : 9 + 1 ≤ _), (by decide : 148 + 4 ≤ _)⟩)
    dsimp only [Pt.U, Pt.locs, Pt.cells, Pt.slots] at X139 lz139 yz139 zz139 st139 hQ139
    subst lz139 yz139 zz139
    obtain ⟨yq139, kq139, rfl, Nq139, Kq139, gq139, sq139, Aq139⟩ := hQ139
    have N139 := Fr.app N130 Nq139
    have ne_va_yq139 : va ≠ yq139 := Nat.ne_of_lt (Nat.lt_of_lt_of_le Ex_131.lt sq139)
    have ne_pa_yq139 : pa ≠ yq139 := Nat.ne_of_lt (Nat.lt_of_lt_of_le Ex_133.lt sq139)
    have ne_ca_yq139 : ca ≠ yq139 := Nat.ne_of_lt (Nat.lt_of_lt_of_le Ex_135.lt sq139)
    have ne_bz120_yq139 : bz120 ≠ yq139 := Nat.ne_of_lt (Nat.lt_of_lt_of_le Ex_137.lt sq139)
    have szq139 : h0.size ≤ yq139 := Nat.le_trans K_138.1 sq139
    have Ex_140 := Ex_131.keep Kq139
    have Af_141 := Af_132.keep Kq139 nin0
    have Ex_142 := Ex_133.keep Kq139
    have F_143 := F_134.keep Kq139 nin0
    have Ex_144 := Ex_135.keep Kq139
    have F_145 := F_136.keep Kq139 nin0
    have Ex_146 := Ex_137.keep Kq139
    have F_147 := qz130_0.keep Kq139 nin0
    have F_148 := qz130_1.keep Kq139 nin0
    have F_149 := qz130_2.keep Kq139 nin0
    have F_150 := qz130_3.keep Kq139 nin0
    have hsk151 : ∀ x ∈ ([] : List Addr), Safe Z own_EL T130.vm T130.heap x := all0
    have O151 := O130.keep Kq139 hsk151
    have K_152 : Keep h0 T139.heap [] := K_138.trans Kq139 all0
    refine OGo.tr st139 ?_
    show OGo p.tables e below _ (T139.setTop (mkF m 99 #[.val (.long q1), .second, .val (.int p2), .val (.int p3), .val (.int p4), .val (.int cI), .val (.int hI), .val (.long cnt), .second, .val (.int (1 : Int32)), .val (.ref ca), .val (.long (2 : Int64)), .second, .val (.ref bz120), .unset, .unset, .unset, .unset, .unset] [(.ref yq139)]))
    refine OGo.st (fun _ k_ => XS.astore X139.here hx rfl (hb hby at_99) rfl rfl (l' := #[.val (.long q1), .second, .val (.int p2), .val (.int p3), .val (.int p4), .val (.int cI), .val (.int hI), .val (.long cnt), .second, .val (.int (1 : Int32)), .val (.ref ca), .val (.long (2 : Int64)), .second, .val (.ref bz120), .val (.ref yq139), .unset, .unset, .unset, .unset]) rfl k_) ?_
    show OGo p.tables e below _ (T139.setTop (mkF m 101 #[.val (.long q1), .second, .val (.int p2), .val (.int p3), .val (.int p4), .val (.int cI), .val (.int hI), .val (.long cnt), .second, .val (.int (1 : Int32)), .val (.ref ca), .val (.long (2 : Int64)), .second, .val (.ref bz120), .val (.ref yq139), .unset, .unset, .unset, .unset] []))
    refine OGo.st (fun _ k_ => XS.aload X139.here hx rfl (hb hby at_101) rfl rfl k_) ?_
    show OGo p.tables e below _ (T139.setTop (mkF m 103 #[.val (.long q1), .second, .val (.int p2), .val (.int p3), .val (.int p4), .val (.int cI), .val (.int hI), .val (.long cnt), .second, .val (.int (1 : Int32)), .val (.ref ca), .val (.long (2 : Int64)), .second, .val (.ref bz120), .val (.ref yq139), .unset, .unset, .unset, .unset] [(.ref yq139)]))
    refine OGo.st (fun _ k_ => XT.nullNo X139.here hx rfl (hb hby at_103) rfl rfl (fun q => nomatch q) k_) ?_
    show OGo p.tables e below _ (T139.setTop (mkF m 106 #[.val (.long q1), .second, .val (.int p2), .val (.int p3), .val (.int p4), .val (.int cI), .val (.int hI), .val (.long cnt), .second, .val (.int (1 : Int32)), .val (.ref ca), .val (.long (2 : Int64)), .second, .val (.ref bz120), .val (.ref yq139), .unset, .unset, .unset, .unset] []))
    refine OGo.st (fun _ k_ => XS.aload X139.here hx rfl (hb hby at_106) rfl rfl k_) ?_
    show OGo p.tables e below _ (T139.setTop (mkF m 108 #[.val (.long q1), .second, .val (.int p2), .val (.int p3), .val (.int p4), .val (.int cI), .val (.int hI), .val (.long cnt), .second, .val (.int (1 : Int32)), .val (.ref ca), .val (.long (2 : Int64)), .second, .val (.ref bz120), .val (.ref yq139), .unset, .unset, .unset, .unset] [(.ref yq139)]))
    have qz153 := own_alen X139 hx hZ rfl Aq139 (g := (mkF m 108 #[.val (.long q1), .second, .val (.int p2), .val (.int p3), .val (.int p4), .val (.int cI), .val (.int hI), .val (.long cnt), .second, .val (.int (1 : Int32)), .val (.ref ca), .val (.long (2 : Int64)), .second, .val (.ref bz120), .val (.ref yq139), .unset, .unset, .unset, .unset] [(.ref yq139)])) rfl rfl (hb hby at_108)
    refine OGo.st qz153 ?_
    show OGo p.tables e below _ (T139.setTop (mkF m 109 #[.val (.long q1), .second, .val (.int p2), .val (.int p3), .val (.int p4), .val (.int cI), .val (.int hI), .val (.long cnt), .second, .val (.int (1 : Int32)), .val (.ref ca), .val (.long (2 : Int64)), .second, .val (.ref bz120), .val (.ref yq139), .unset, .unset, .unset, .unset] [(.int (4 : Int32))]))
    refine OGo.st (fun _ k_ => XS.iconst X139.here hx rfl (hb hby at_109) k_) ?_
    show OGo p.tables e below _ (T139.setTop (mkF m 110 #[.val (.long q1), .second, .val (.int p2), .val (.int p3), .val (.int p4), .val (.int cI), .val (.int hI), .val (.long cnt), .second, .val (.int (1 : Int32)), .val (.ref ca), .val (.long (2 : Int64)), .second, .val (.ref bz120), .val (.ref yq139), .unset, .unset, .unset, .unset] [(.int (4 : Int32)), (.int (4 : Int32))]))
    refine OGo.st (fun _ k_ => XS.icmpNo X139.here hx rfl (hb hby at_110) rfl (XT.ii_ne_f (by decide)) k_) ?_
    show OGo p.tables e below _ (T139.setTop (mkF m 113 #[.val (.long q1), .second, .val (.int p2), .val (.int p3), .val (.int p4), .val (.int cI), .val (.int hI), .val (.long cnt), .second, .val (.int (1 : Int32)), .val (.ref ca), .val (.long (2 : Int64)), .second, .val (.ref bz120), .val (.ref yq139), .unset, .unset, .unset, .unset] []))
    refine OGo.st (fun _ k_ => XS.aload X139.here hx rfl (hb hby at_113) rfl rfl k_) ?_
    show OGo p.tables e below _ (T139.setTop (mkF m 115 #[.val (.long q1), .second, .val (.int p2), .val (.int p3), .val (.int p4), .val (.int cI), .val (.int hI), .val (.long cnt), .second, .val (.int (1 : Int32)), .val (.ref ca), .val (.long (2 : Int64)), .second, .val (.ref bz120), .val (.ref yq139), .unset, .unset, .unset, .unset] [(.ref yq139)]))
    refine OGo.st (fun _ k_ => XS.iconst X139.here hx rfl (hb hby at_115) k_) ?_
    show OGo p.tables e below _ (T139.setTop (mkF m 116 #[.val (.long q1), .second, .val (.int p2), .val (.int p3), .val (.int p4), .val (.int cI), .val (.int hI), .val (.long cnt), .second, .val (.int (1 : Int32)), .val (.ref ca), .val (.long (2 : Int64)), .second, .val (.ref bz120), .val (.ref yq139), .unset, .unset, .unset, .unset] [(.int (0 : Int32)), (.ref yq139)]))
    have qz154 := own_ldJ X139 hx hZ rfl Aq139 (j := (0 : Int32)) (v := cnt) (by decide) rfl (g := (mkF m 116 #[.val (.long q1), .second, .val (.int p2), .val (.int p3), .val (.int p4), .val (.int cI), .val (.int hI), .val (.long cnt), .second, .val (.int (1 : Int32)), .val (.ref ca), .val (.long (2 : Int64)), .second, .val (.ref bz120), .val (.ref yq139), .unset, .unset, .unset, .unset] [(.int (0 : Int32)), (.ref yq139)])) rfl rfl (hb hby at_116)
    refine OGo.st qz154 ?_
    show OGo p.tables e below _ (T139.setTop (mkF m 117 #[.val (.long q1), .second, .val (.int p2), .val (.int p3), .val (.int p4), .val (.int cI), .val (.int hI), .val (.long cnt), .second, .val (.int (1 : Int32)), .val (.ref ca), .val (.long (2 : Int64)), .second, .val (.ref bz120), .val (.ref yq139), .unset, .unset, .unset, .unset] [(.long cnt)]))
    refine OGo.st (fun _ k_ => XS.lload X139.here hx rfl (hb hby at_117) rfl k_) ?_
    show OGo p.tables e below _ (T139.setTop (mkF m 119 #[.val (.long q1), .second, .val (.int p2), .val (.int p3), .val (.int p4), .val (.int cI), .val (.int hI), .val (.long cnt), .second, .val (.int (1 : Int32)), .val (.ref ca), .val (.long (2 : Int64)), .second, .val (.ref bz120), .val (.ref yq139), .unset, .unset, .unset, .unset] [(.long cnt), (.long cnt)]))
    refine OGo.st (fun _ k_ => XT.lcmp X139.here hx rfl (hb hby at_119) rfl k_) ?_
    show OGo p.tables e below _ (T139.setTop (mkF m 120 #[.val (.long q1), .second, .val (.int p2), .val (.int p3), .val (.int p4), .val (.int cI), .val (.int hI), .val (.long cnt), .second, .val (.int (1 : Int32)), .val (.ref ca), .val (.long (2 : Int64)), .second, .val (.ref bz120), .val (.ref yq139), .unset, .unset, .unset, .unset] [(.int (XT.cmpL cnt cnt))]))
    refine OGo.st (fun _ k_ => XS.ifNo X139.here hx rfl (hb hby at_120) rfl (XT.ll_ne_f (by first | rfl | decide)) k_) ?_
    show OGo p.tables e below _ (T139.setTop (mkF m 123 #[.val (.long q1), .second, .val (.int p2), .val (.int p3), .val (.int p4), .val (.int cI), .val (.int hI), .val (.long cnt), .second, .val (.int (1 : Int32)), .val (.ref ca), .val (.long (2 : Int64)), .second, .val (.ref bz120), .val (.ref yq139), .unset, .unset, .unset, .unset] []))
    refine OGo.st (fun _ k_ => XS.aload X139.here hx rfl (hb hby at_123) rfl rfl k_) ?_
    show OGo p.tables e below _ (T139.setTop (mkF m 125 #[.val (.long q1), .second, .val (.int p2), .val (.int p3), .val (.int p4), .val (.int cI), .val (.int hI), .val (.long cnt), .second, .val (.int (1 : Int32)), .val (.ref ca), .val (.long (2 : Int64)), .second, .val (.ref bz120), .val (.ref yq139), .unset, .unset, .unset, .unset] [(.ref yq139)]))
    refine OGo.st (fun _ k_ => XS.iconst X139.here hx rfl (hb hby at_125) k_) ?_
    show OGo p.tables e below _ (T139.setTop (mkF m 126 #[.val (.long q1), .second, .val (.int p2), .val (.int p3), .val (.int p4), .val (.int cI), .val (.int hI), .val (.long cnt), .second, .val (.int (1 : Int32)), .val (.ref ca), .val (.long (2 : Int64)), .second, .val (.ref bz120), .val (.ref yq139), .unset, .unset, .unset, .unset] [(.int (1 : Int32)), (.ref yq139)]))
    have qz155 := own_ldJ X139 hx hZ rfl Aq139 (j := (1 : Int32)) (v := hI.toInt64) (by decide) rfl (g := (mkF m 126 #[.val (.long q1), .second, .val (.int p2), .val (.int p3), .val (.int p4), .val (.int cI), .val (.int hI), .val (.long cnt), .second, .val (.int (1 : Int32)), .val (.ref ca), .val (.long (2 : Int64)), .second, .val (.ref bz120), .val (.ref yq139), .unset, .unset, .unset, .unset] [(.int (1 : Int32)), (.ref yq139)])) rfl rfl (hb hby at_126)
    refine OGo.st qz155 ?_
    show OGo p.tables e below _ (T139.setTop (mkF m 127 #[.val (.long q1), .second, .val (.int p2), .val (.int p3), .val (.int p4), .val (.int cI), .val (.int hI), .val (.long cnt), .second, .val (.int (1 : Int32)), .val (.ref ca), .val (.long (2 : Int64)), .second, .val (.ref bz120), .val (.ref yq139), .unset, .unset, .unset, .unset] [(.long hI.toInt64)]))
    refine OGo.st (fun _ k_ => XS.iload X139.here hx rfl (hb hby at_127) rfl k_) ?_
    show OGo p.tables e below _ (T139.setTop (mkF m 129 #[.val (.long q1), .second, .val (.int p2), .val (.int p3), .val (.int p4), .val (.int cI), .val (.int hI), .val (.long cnt), .second, .val (.int (1 : Int32)), .val (.ref ca), .val (.long (2 : Int64)), .second, .val (.ref bz120), .val (.ref yq139), .unset, .unset, .unset, .unset] [(.int hI), (.long hI.toInt64)]))
    refine OGo.st (fun _ k_ => XS.i2l X139.here hx rfl (hb hby at_129) rfl k_) ?_
    show OGo p.tables e below _ (T139.setTop (mkF m 130 #[.val (.long q1), .second, .val (.int p2), .val (.int p3), .val (.int p4), .val (.int cI), .val (.int hI), .val (.long cnt), .second, .val (.int (1 : Int32)), .val (.ref ca), .val (.long (2 : Int64)), .second, .val (.ref bz120), .val (.ref yq139), .unset, .unset, .unset, .unset] [(.long hI.toInt64), (.long hI.toInt64)]))
    refine OGo.st (fun _ k_ => XT.lcmp X139.here hx rfl (hb hby at_130) rfl k_) ?_
    show OGo p.tables e below _ (T139.setTop (mkF m 131 #[.val (.long q1), .second, .val (.int p2), .val (.int p3), .val (.int p4), .val (.int cI), .val (.int hI), .val (.long cnt), .second, .val (.int (1 : Int32)), .val (.ref ca), .val (.long (2 : Int64)), .second, .val (.ref bz120), .val (.ref yq139), .unset, .unset, .unset, .unset] [(.int (XT.cmpL hI.toInt64 hI.toInt64))]))
    refine OGo.st (fun _ k_ => XS.ifNo X139.here hx rfl (hb hby at_131) rfl (XT.ll_ne_f (by first | rfl | decide)) k_) ?_
    show OGo p.tables e below _ (T139.setTop (mkF m 134 #[.val (.long q1), .second, .val (.int p2), .val (.int p3), .val (.int p4), .val (.int cI), .val (.int hI), .val (.long cnt), .second, .val (.int (1 : Int32)), .val (.ref ca), .val (.long (2 : Int64)), .second, .val (.ref bz120), .val (.ref yq139), .unset, .unset, .unset, .unset] []))
    refine OGo.st (fun _ k_ => XS.aload X139.here hx rfl (hb hby at_134) rfl rfl k_) ?_
    show OGo p.tables e below _ (T139.setTop (mkF m 136 #[.val (.long q1), .second, .val (.int p2), .val (.int p3), .val (.int p4), .val (.int cI), .val (.int hI), .val (.long cnt), .second, .val (.int (1 : Int32)), .val (.ref ca), .val (.long (2 : Int64)), .second, .val (.ref bz120), .val (.ref yq139), .unset, .unset, .unset, .unset] [(.ref yq139)]))
    refine OGo.st (fun _ k_ => XS.iconst X139.here hx rfl (hb hby at_136) k_) ?_
    show OGo p.tables e below _ (T139.setTop (mkF m 137 #[.val (.long q1), .second, .val (.int p2), .val (.int p3), .val (.int p4), .val (.int cI), .val (.int hI), .val (.long cnt), .second, .val (.int (1 : Int32)), .val (.ref ca), .val (.long (2 : Int64)), .second, .val (.ref bz120), .val (.ref yq139), .unset, .unset, .unset, .unset] [(.int (2 : Int32)), (.ref yq139)]))
    have qz156 := own_ldJ X139 hx hZ rfl Aq139 (j := (2 : Int32)) (v := cI.toInt64) (by decide) rfl (g := (mkF m 137 #[.val (.long q1), .second, .val (.int p2), .val (.int p3), .val (.int p4), .val (.int cI), .val (.int hI), .val (.long cnt), .second, .val (.int (1 : Int32)), .val (.ref ca), .val (.long (2 : Int64)), .second, .val (.ref bz120), .val (.ref yq139), .unset, .unset, .unset, .unset] [(.int (2 : Int32)), (.ref yq139)])) rfl rfl (hb hby at_137)
    refine OGo.st qz156 ?_
    show OGo p.tables e below _ (T139.setTop (mkF m 138 #[.val (.long q1), .second, .val (.int p2), .val (.int p3), .val (.int p4), .val (.int cI), .val (.int hI), .val (.long cnt), .second, .val (.int (1 : Int32)), .val (.ref ca), .val (.long (2 : Int64)), .second, .val (.ref bz120), .val (.ref yq139), .unset, .unset, .unset, .unset] [(.long cI.toInt64)]))
    refine OGo.st (fun _ k_ => XS.iload X139.here hx rfl (hb hby at_138) rfl k_) ?_
    show OGo p.tables e below _ (T139.setTop (mkF m 140 #[.val (.long q1), .second, .val (.int p2), .val (.int p3), .val (.int p4), .val (.int cI), .val (.int hI), .val (.long cnt), .second, .val (.int (1 : Int32)), .val (.ref ca), .val (.long (2 : Int64)), .second, .val (.ref bz120), .val (.ref yq139), .unset, .unset, .unset, .unset] [(.int cI), (.long cI.toInt64)]))
    refine OGo.st (fun _ k_ => XS.i2l X139.here hx rfl (hb hby at_140) rfl k_) ?_
    show OGo p.tables e below _ (T139.setTop (mkF m 141 #[.val (.long q1), .second, .val (.int p2), .val (.int p3), .val (.int p4), .val (.int cI), .val (.int hI), .val (.long cnt), .second, .val (.int (1 : Int32)), .val (.ref ca), .val (.long (2 : Int64)), .second, .val (.ref bz120), .val (.ref yq139), .unset, .unset, .unset, .unset] [(.long cI.toInt64), (.long cI.toInt64)]))
    refine OGo.st (fun _ k_ => XT.lcmp X139.here hx rfl (hb hby at_141) rfl k_) ?_
    show OGo p.tables e below _ (T139.setTop (mkF m 142 #[.val (.long q1), .second, .val (.int p2), .val (.int p3), .val (.int p4), .val (.int cI), .val (.int hI), .val (.long cnt), .second, .val (.int (1 : Int32)), .val (.ref ca), .val (.long (2 : Int64)), .second, .val (.ref bz120), .val (.ref yq139), .unset, .unset, .unset, .unset] [(.int (XT.cmpL cI.toInt64 cI.toInt64))]))
    refine OGo.st (fun _ k_ => XS.ifNo X139.here hx rfl (hb hby at_142) rfl (XT.ll_ne_f (by first | rfl | decide)) k_) ?_
    show OGo p.tables e below _ (T139.setTop (mkF m 145 #[.val (.long q1), .second, .val (.int p2), .val (.int p3), .val (.int p4), .val (.int cI), .val (.int hI), .val (.long cnt), .second, .val (.int (1 : Int32)), .val (.ref ca), .val (.long (2 : Int64)), .second, .val (.ref bz120), .val (.ref yq139), .unset, .unset, .unset, .unset] []))
    refine OGo.st (fun _ k_ => XS.aload X139.here hx rfl (hb hby at_145) rfl rfl k_) ?_
    show OGo p.tables e below _ (T139.setTop (mkF m 147 #[.val (.long q1), .second, .val (.int p2), .val (.int p3), .val (.int p4), .val (.int cI), .val (.int hI), .val (.long cnt), .second, .val (.int (1 : Int32)), .val (.ref ca), .val (.long (2 : Int64)), .second, .val (.ref bz120), .val (.ref yq139), .unset, .unset, .unset, .unset] [(.ref yq139)]))
    refine OGo.st (fun _ k_ => XS.iconst X139.here hx rfl (hb hby at_147) k_) ?_
    show OGo p.tables e below _ (T139.setTop (mkF m 148 #[.val (.long q1), .second, .val (.int p2), .val (.int p3), .val (.int p4), .val (.int cI), .val (.int hI), .val (.long cnt), .second, .val (.int (1 : Int32)), .val (.ref ca), .val (.long (2 : Int64)), .second, .val (.ref bz120), .val (.ref yq139), .unset, .unset, .unset, .unset] [(.int (3 : Int32)), (.ref yq139)]))
    have qz157 := own_ldJ X139 hx hZ rfl Aq139 (j := (3 : Int32)) (v := (2 : Int32).toInt64) (by decide) rfl (g := (mkF m 148 #[.val (.long q1), .second, .val (.int p2), .val (.int p3), .val (.int p4), .val (.int cI), .val (.int hI), .val (.long cnt), .second, .val (.int (1 : Int32)), .val (.ref ca), .val (.long (2 : Int64)), .second, .val (.ref bz120), .val (.ref yq139), .unset, .unset, .unset, .unset] [(.int (3 : Int32)), (.ref yq139)])) rfl rfl (hb hby at_148)
    refine OGo.st qz157 ?_
    show OGo p.tables e below _ (T139.setTop (mkF m 149 #[.val (.long q1), .second, .val (.int p2), .val (.int p3), .val (.int p4), .val (.int cI), .val (.int hI), .val (.long cnt), .second, .val (.int (1 : Int32)), .val (.ref ca), .val (.long (2 : Int64)), .second, .val (.ref bz120), .val (.ref yq139), .unset, .unset, .unset, .unset] [(.long (2 : Int32).toInt64)]))
    refine OGo.st (fun _ k_ => XS.lload X139.here hx rfl (hb hby at_149) rfl k_) ?_
    show OGo p.tables e below _ (T139.setTop (mkF m 151 #[.val (.long q1), .second, .val (.int p2), .val (.int p3), .val (.int p4), .val (.int cI), .val (.int hI), .val (.long cnt), .second, .val (.int (1 : Int32)), .val (.ref ca), .val (.long (2 : Int64)), .second, .val (.ref bz120), .val (.ref yq139), .unset, .unset, .unset, .unset] [(.long (2 : Int64)), (.long (2 : Int32).toInt64)]))
    refine OGo.st (fun _ k_ => XT.lcmp X139.here hx rfl (hb hby at_151) rfl k_) ?_
    show OGo p.tables e below _ (T139.setTop (mkF m 152 #[.val (.long q1), .second, .val (.int p2), .val (.int p3), .val (.int p4), .val (.int cI), .val (.int hI), .val (.long cnt), .second, .val (.int (1 : Int32)), .val (.ref ca), .val (.long (2 : Int64)), .second, .val (.ref bz120), .val (.ref yq139), .unset, .unset, .unset, .unset] [(.int (XT.cmpL (2 : Int32).toInt64 (2 : Int64)))]))
    refine OGo.st (fun _ k_ => XS.ifNo X139.here hx rfl (hb hby at_152) rfl (XT.ll_ne_f (by first | rfl | decide)) k_) ?_
    show OGo p.tables e below _ (T139.setTop (mkF m 155 #[.val (.long q1), .second, .val (.int p2), .val (.int p3), .val (.int p4), .val (.int cI), .val (.int hI), .val (.long cnt), .second, .val (.int (1 : Int32)), .val (.ref ca), .val (.long (2 : Int64)), .second, .val (.ref bz120), .val (.ref yq139), .unset, .unset, .unset, .unset] []))
    refine OGo.st (fun _ k_ => XS.iconst X139.here hx rfl (hb hby at_155) k_) ?_
    show OGo p.tables e below _ (T139.setTop (mkF m 156 #[.val (.long q1), .second, .val (.int p2), .val (.int p3), .val (.int p4), .val (.int cI), .val (.int hI), .val (.long cnt), .second, .val (.int (1 : Int32)), .val (.ref ca), .val (.long (2 : Int64)), .second, .val (.ref bz120), .val (.ref yq139), .unset, .unset, .unset, .unset] [(.int (1 : Int32))]))
    refine OGo.st (fun _ k_ => XS.goto X139.here hx rfl (pc0 := 156) (pc' := 160) rfl (hb hby at_156) (by decide) (by decide) k_) ?_
    show OGo p.tables e below _ (T139.setTop (mkF m 160 #[.val (.long q1), .second, .val (.int p2), .val (.int p3), .val (.int p4), .val (.int cI), .val (.int hI), .val (.long cnt), .second, .val (.int (1 : Int32)), .val (.ref ca), .val (.long (2 : Int64)), .second, .val (.ref bz120), .val (.ref yq139), .unset, .unset, .unset, .unset] [(.int (1 : Int32))]))
    refine OGo.st (fun _ k_ => XS.istore X139.here hx rfl (hb hby at_160) rfl (l' := #[.val (.long q1), .second, .val (.int p2), .val (.int p3), .val (.int p4), .val (.int cI), .val (.int hI), .val (.long cnt), .second, .val (.int (1 : Int32)), .val (.ref ca), .val (.long (2 : Int64)), .second, .val (.ref bz120), .val (.ref yq139), .val (.int (1 : Int32)), .unset, .unset, .unset]) rfl k_) ?_
    show OGo p.tables e below _ (T139.setTop (mkF m 162 #[.val (.long q1), .second, .val (.int p2), .val (.int p3), .val (.int p4), .val (.int cI), .val (.int hI), .val (.long cnt), .second, .val (.int (1 : Int32)), .val (.ref ca), .val (.long (2 : Int64)), .second, .val (.ref bz120), .val (.ref yq139), .val (.int (1 : Int32)), .unset, .unset, .unset] []))
    refine OGo.st (fun _ k_ => XS.iload X139.here hx rfl (hb hby at_162) rfl k_) ?_
    show OGo p.tables e below _ (T139.setTop (mkF m 164 #[.val (.long q1), .second, .val (.int p2), .val (.int p3), .val (.int p4), .val (.int cI), .val (.int hI), .val (.long cnt), .second, .val (.int (1 : Int32)), .val (.ref ca), .val (.long (2 : Int64)), .second, .val (.ref bz120), .val (.ref yq139), .val (.int (1 : Int32)), .unset, .unset, .unset] [(.int (1 : Int32))]))
    refine OGo.st (fun _ k_ => XS.ifYes X139.here hx rfl (pc0 := 164) (pc' := 169) rfl (hb hby at_164) rfl (XT.i0_ne_t (by decide)) (by decide) (by decide) k_) ?_
    show OGo p.tables e below _ (T139.setTop (mkF m 169 #[.val (.long q1), .second, .val (.int p2), .val (.int p3), .val (.int p4), .val (.int cI), .val (.int hI), .val (.long cnt), .second, .val (.int (1 : Int32)), .val (.ref ca), .val (.long (2 : Int64)), .second, .val (.ref bz120), .val (.ref yq139), .val (.int (1 : Int32)), .unset, .unset, .unset] []))
    refine OGo.st (fun _ k_ => XS.aload X139.here hx rfl (hb hby at_169) rfl rfl k_) ?_
    show OGo p.tables e below _ (T139.setTop (mkF m 171 #[.val (.long q1), .second, .val (.int p2), .val (.int p3), .val (.int p4), .val (.int cI), .val (.int hI), .val (.long cnt), .second, .val (.int (1 : Int32)), .val (.ref ca), .val (.long (2 : Int64)), .second, .val (.ref bz120), .val (.ref yq139), .val (.int (1 : Int32)), .unset, .unset, .unset] [(.ref yq139)]))
    have hsc158 : ∀ x ∈ ([] : List Addr), x < T139.heap.size ∧ Safe Z own_EL T130.vm T139.heap x := all0
    obtain ⟨_, _, ⟨T158, Lz158, kz158, nz158⟩, -, X158, sn158, gn158, ⟨Lc158, hQ158, lz158, yz158, zz158, cr158⟩, st158⟩ := callSS X139 hx (y := (⟨"com/example/crivo/crivo/CountingParameters", "fromFile", "([J)Lcom/example/crivo/crivo/CountingParameters;"⟩ : MethodName)) hown (mvT hZ (hw _ (List.mem_of_getElem? (i := 64) rfl))) (mvT hZ (hw _ (List.mem_of_getElem? (i := 65) rfl))) (mvT hZ (hw _ (List.mem_of_getElem? (i := 7) rfl))) (mvT hZ (hw _ (List.mem_of_getElem? (i := 66) rfl))) (by decide) (own_backSH (W := 0) (rm13 l Z a0 hw [] yq139 kq139 cnt hI cI (2 : Int32).toInt64 va k pa ca ca T139.heap n0 (Nat.le_trans Z0 K_152.1) hcI_.1 hcI_.2.1 hcnt_.1 hcnt_.2 hcI_.2.2.1 hhI_.1 hhI_.2 (by unfold own_ft; rw [if_neg (by decide), if_pos rfl]) (own_sta_keep S_va K_152) Ex_140 Af_141 Ex_142 F_143 Ex_144 F_145 Ex_144 Aq139) hZ (hw _ (List.mem_of_getElem? (i := 66) rfl)) (hw _ (List.mem_of_getElem? (i := 7) rfl)) (by decide) (by decide) (own_EW hw) O151.r.1 hsc158) (g := (mkF m 171 #[.val (.long q1), .second, .val (.int p2), .val (.int p3), .val (.int p4), .val (.int cI), .val (.int hI), .val (.long cnt), .second, .val (.int (1 : Int32)), .val (.ref ca), .val (.long (2 : Int64)), .second, .val (.ref bz120), .val (.ref yq139), .val (.int (1 : Int32)), .unset, .unset, .unset] [(.ref yq139)])) rfl (by rw [hml]; rfl) (argsL := [(.ref yq139)]) (rest := []) (lenOf own_pd10 rfl) rfl (by show 2 * 0 + _ ≤ _; exact Nat.le_of_eq rfl) (hb hby at_171) (fun _ _ => ⟨rfl, rfl, (by decide : 10 + 17 ≤ _), (by decide : 152 + 267 ≤ _)⟩)
    dsimp only [Pt.U, Pt.locs, Pt.cells, Pt.slots] at X158 sn158 gn158 lz158 yz158 zz158 cr158 st158 hQ158
    subst lz158 yz158 zz158
    have O158 := O151.call sn158 rfl gn158 cr158
    have X158 : Stand p l e room_1 (s.setVm T158.vm) m #[(.long q1), (.int p2), (.int p3), (.int p4)] below meth c T158 _ _ _ := X158
    have hZ := O158.z
    have hown := O158.o
    obtain ⟨yq158, rfl, Nq158, Kq158, sq158, Eq158, fq158_0, fq158_1, fq158_2, fq158_3⟩ := hQ158
    have N158 := Fr.app N139 Nq158
    have gq158 : n0 ≤ yq158 := Nat.le_trans (Nat.le_trans Z0 K_152.1) sq158
    have ne_va_yq158 : va ≠ yq158 := Nat.ne_of_lt (Nat.lt_of_lt_of_le Ex_140.lt sq158)
    have ne_pa_yq158 : pa ≠ yq158 := Nat.ne_of_lt (Nat.lt_of_lt_of_le Ex_142.lt sq158)
    have ne_ca_yq158 : ca ≠ yq158 := Nat.ne_of_lt (Nat.lt_of_lt_of_le Ex_144.lt sq158)
    have ne_bz120_yq158 : bz120 ≠ yq158 := Nat.ne_of_lt (Nat.lt_of_lt_of_le Ex_146.lt sq158)
    have ne_yq139_yq158 : yq139 ≠ yq158 := Nat.ne_of_lt (Nat.lt_of_lt_of_le Aq139.lt sq158)
    have szq158 : h0.size ≤ yq158 := Nat.le_trans K_152.1 sq158
    have Ex_159 := Ex_140.keep Kq158
    have Af_160 := Af_141.keep Kq158 nin0
    have Ex_161 := Ex_142.keep Kq158
    have F_162 := F_143.keep Kq158 nin0
    have Ex_163 := Ex_144.keep Kq158
    have F_164 := F_145.keep Kq158 nin0
    have Ex_165 := Ex_146.keep Kq158
    have F_166 := F_147.keep Kq158 nin0
    have F_167 := F_148.keep Kq158 nin0
    have F_168 := F_149.keep Kq158 nin0
    have F_169 := F_150.keep Kq158 nin0
    have Af_170 := Aq139.keep Kq158 nin0
    have K_171 : Keep h0 T158.heap [] := K_152.trans Kq158 all0
    refine OGo.tr st158 ?_
    show OGo p.tables e below _ (T158.setTop (mkF m 174 #[.val (.long q1), .second, .val (.int p2), .val (.int p3), .val (.int p4), .val (.int cI), .val (.int hI), .val (.long cnt), .second, .val (.int (1 : Int32)), .val (.ref ca), .val (.long (2 : Int64)), .second, .val (.ref bz120), .val (.ref yq139), .val (.int (1 : Int32)), .unset, .unset, .unset] [(.ref yq158)]))
    refine OGo.st (fun _ k_ => XS.astore X158.here hx rfl (hb hby at_174) rfl rfl (l' := #[.val (.long q1), .second, .val (.int p2), .val (.int p3), .val (.int p4), .val (.int cI), .val (.int hI), .val (.long cnt), .second, .val (.int (1 : Int32)), .val (.ref ca), .val (.long (2 : Int64)), .second, .val (.ref bz120), .val (.ref yq139), .val (.int (1 : Int32)), .val (.ref yq158), .unset, .unset]) rfl k_) ?_
    show OGo p.tables e below _ (T158.setTop (mkF m 176 #[.val (.long q1), .second, .val (.int p2), .val (.int p3), .val (.int p4), .val (.int cI), .val (.int hI), .val (.long cnt), .second, .val (.int (1 : Int32)), .val (.ref ca), .val (.long (2 : Int64)), .second, .val (.ref bz120), .val (.ref yq139), .val (.int (1 : Int32)), .val (.ref yq158), .unset, .unset] []))
    refine OGo.st (fun _ k_ => XS.aload X158.here hx rfl (hb hby at_176) rfl rfl k_) ?_
    show OGo p.tables e below _ (T158.setTop (mkF m 178 #[.val (.long q1), .second, .val (.int p2), .val (.int p3), .val (.int p4), .val (.int cI), .val (.int hI), .val (.long cnt), .second, .val (.int (1 : Int32)), .val (.ref ca), .val (.long (2 : Int64)), .second, .val (.ref bz120), .val (.ref yq139), .val (.int (1 : Int32)), .val (.ref yq158), .unset, .unset] [(.ref yq158)]))
    obtain ⟨cq172, kqz172, qz172a, qz172b, qz172c⟩ := isOf hZ rfl Eq158
    obtain ⟨_, _, ⟨T172, Lz172, kz172, nz172⟩, -, X172, ⟨Lc172, hQ172, lz172, yz172, zz172⟩, st172⟩ := X158.virtualBack hx (y := (⟨"com/example/crivo/crivo/CountingParameters", "counters", "()J"⟩ : MethodName)) (z := (⟨"com/example/crivo/crivo/CountingParameters", "counters", "()J"⟩ : MethodName)) hown (mvT hZ (hw _ (List.mem_of_getElem? (i := 103) rfl))) (mvT hZ (hw _ (List.mem_of_getElem? (i := 104) rfl))) (notFace_of_selects (args := #[]) (mvT hZ (hw _ (List.mem_of_getElem? (i := 106) rfl)))) (mvT hZ (hw _ (List.mem_of_getElem? (i := 106) rfl))) (mvT hZ (hw _ (List.mem_of_getElem? (i := 105) rfl))) (by decide) (backOf (W := 0) (rm14 l Z a0 hw [] yq158 cnt T158.heap n0 (Nat.le_trans Z0 K_171.1) fq158_0) hZ (hw _ (List.mem_of_getElem? (i := 107) rfl)) (hw _ (List.mem_of_getElem? (i := 7) rfl)) (by decide) (by decide)) qz172a qz172c (g := (mkF m 178 #[.val (.long q1), .second, .val (.int p2), .val (.int p3), .val (.int p4), .val (.int cI), .val (.int hI), .val (.long cnt), .second, .val (.int (1 : Int32)), .val (.ref ca), .val (.long (2 : Int64)), .second, .val (.ref bz120), .val (.ref yq139), .val (.int (1 : Int32)), .val (.ref yq158), .unset, .unset] [(.ref yq158)])) rfl (by rw [hml]; rfl) (Steps.refl _) (argsL := []) (rest := []) (lenOf own_pd11 rfl) rfl (by show 2 * 0 + _ ≤ _; exact Nat.le_of_eq rfl) (hb hby at_178) (fun _ _ => ⟨rfl, rfl, (by decide : 27 + 0 ≤ _), (by decide : 419 + 0 ≤ _)⟩)
    dsimp only [Pt.U, Pt.locs, Pt.cells, Pt.slots] at X172 lz172 yz172 zz172 st172 hQ172
    subst lz172 yz172 zz172
    obtain ⟨rfl, Nq172, ez172⟩ := hQ172
    have N172 := Fr.app N158 Nq172
    refine OGo.tr st172 ?_
    show OGo p.tables e below _ (T172.setTop (mkF m 181 #[.val (.long q1), .second, .val (.int p2), .val (.int p3), .val (.int p4), .val (.int cI), .val (.int hI), .val (.long cnt), .second, .val (.int (1 : Int32)), .val (.ref ca), .val (.long (2 : Int64)), .second, .val (.ref bz120), .val (.ref yq139), .val (.int (1 : Int32)), .val (.ref yq158), .unset, .unset] [(.long cnt)]))
    refine OGo.st (fun _ k_ => XS.lload X172.here hx rfl (hb hby at_181) rfl k_) ?_
    show OGo p.tables e below _ (T172.setTop (mkF m 183 #[.val (.long q1), .second, .val (.int p2), .val (.int p3), .val (.int p4), .val (.int cI), .val (.int hI), .val (.long cnt), .second, .val (.int (1 : Int32)), .val (.ref ca), .val (.long (2 : Int64)), .second, .val (.ref bz120), .val (.ref yq139), .val (.int (1 : Int32)), .val (.ref yq158), .unset, .unset] [(.long cnt), (.long cnt)]))
    refine OGo.st (fun _ k_ => XT.lcmp X172.here hx rfl (hb hby at_183) rfl k_) ?_
    show OGo p.tables e below _ (T172.setTop (mkF m 184 #[.val (.long q1), .second, .val (.int p2), .val (.int p3), .val (.int p4), .val (.int cI), .val (.int hI), .val (.long cnt), .second, .val (.int (1 : Int32)), .val (.ref ca), .val (.long (2 : Int64)), .second, .val (.ref bz120), .val (.ref yq139), .val (.int (1 : Int32)), .val (.ref yq158), .unset, .unset] [(.int (XT.cmpL cnt cnt))]))
    refine OGo.st (fun _ k_ => XS.ifNo X172.here hx rfl (hb hby at_184) rfl (XT.ll_ne_f (by first | rfl | decide)) k_) ?_
    show OGo p.tables e below _ (T172.setTop (mkF m 187 #[.val (.long q1), .second, .val (.int p2), .val (.int p3), .val (.int p4), .val (.int cI), .val (.int hI), .val (.long cnt), .second, .val (.int (1 : Int32)), .val (.ref ca), .val (.long (2 : Int64)), .second, .val (.ref bz120), .val (.ref yq139), .val (.int (1 : Int32)), .val (.ref yq158), .unset, .unset] []))
    refine OGo.st (fun _ k_ => XS.aload X172.here hx rfl (hb hby at_187) rfl rfl k_) ?_
    show OGo p.tables e below _ (T172.setTop (mkF m 189 #[.val (.long q1), .second, .val (.int p2), .val (.int p3), .val (.int p4), .val (.int cI), .val (.int hI), .val (.long cnt), .second, .val (.int (1 : Int32)), .val (.ref ca), .val (.long (2 : Int64)), .second, .val (.ref bz120), .val (.ref yq139), .val (.int (1 : Int32)), .val (.ref yq158), .unset, .unset] [(.ref yq158)]))
    obtain ⟨cq173, kqz173, qz173a, qz173b, qz173c⟩ := isOf hZ ez172 Eq158
    obtain ⟨_, _, ⟨T173, Lz173, kz173, nz173⟩, -, X173, ⟨Lc173, hQ173, lz173, yz173, zz173⟩, st173⟩ := X172.virtualBack hx (y := (⟨"com/example/crivo/crivo/CountingParameters", "hashes", "()I"⟩ : MethodName)) (z := (⟨"com/example/crivo/crivo/CountingParameters", "hashes", "()I"⟩ : MethodName)) hown (mvT hZ (hw _ (List.mem_of_getElem? (i := 108) rfl))) (mvT hZ (hw _ (List.mem_of_getElem? (i := 109) rfl))) (notFace_of_selects (args := #[]) (mvT hZ (hw _ (List.mem_of_getElem? (i := 111) rfl)))) (mvT hZ (hw _ (List.mem_of_getElem? (i := 111) rfl))) (mvT hZ (hw _ (List.mem_of_getElem? (i := 110) rfl))) (by decide) (backOf (W := 0) (rm15 l Z a0 hw [] yq158 hI T158.heap n0 (Nat.le_trans Z0 K_171.1) fq158_1) hZ (hw _ (List.mem_of_getElem? (i := 112) rfl)) (hw _ (List.mem_of_getElem? (i := 7) rfl)) (by decide) (by decide)) qz173a qz173c (g := (mkF m 189 #[.val (.long q1), .second, .val (.int p2), .val (.int p3), .val (.int p4), .val (.int cI), .val (.int hI), .val (.long cnt), .second, .val (.int (1 : Int32)), .val (.ref ca), .val (.long (2 : Int64)), .second, .val (.ref bz120), .val (.ref yq139), .val (.int (1 : Int32)), .val (.ref yq158), .unset, .unset] [(.ref yq158)])) rfl (by rw [hml]; rfl) (Steps.refl _) (argsL := []) (rest := []) (lenOf own_pd12 rfl) rfl (by show 2 * 0 + _ ≤ _; exact Nat.le_of_eq rfl) (hb hby at_189) (fun _ _ => ⟨rfl, ez172, (by decide : 27 + 0 ≤ _), (by decide : 419 + 0 ≤ _)⟩)
    dsimp only [Pt.U, Pt.locs, Pt.cells, Pt.slots] at X173 lz173 yz173 zz173 st173 hQ173
    subst lz173 yz173 zz173
    obtain ⟨rfl, Nq173, ez173⟩ := hQ173
    have N173 := Fr.app N172 Nq173
    refine OGo.tr st173 ?_
    show OGo p.tables e below _ (T173.setTop (mkF m 192 #[.val (.long q1), .second, .val (.int p2), .val (.int p3), .val (.int p4), .val (.int cI), .val (.int hI), .val (.long cnt), .second, .val (.int (1 : Int32)), .val (.ref ca), .val (.long (2 : Int64)), .second, .val (.ref bz120), .val (.ref yq139), .val (.int (1 : Int32)), .val (.ref yq158), .unset, .unset] [(.int hI)]))
    refine OGo.st (fun _ k_ => XS.iload X173.here hx rfl (hb hby at_192) rfl k_) ?_
    show OGo p.tables e below _ (T173.setTop (mkF m 194 #[.val (.long q1), .second, .val (.int p2), .val (.int p3), .val (.int p4), .val (.int cI), .val (.int hI), .val (.long cnt), .second, .val (.int (1 : Int32)), .val (.ref ca), .val (.long (2 : Int64)), .second, .val (.ref bz120), .val (.ref yq139), .val (.int (1 : Int32)), .val (.ref yq158), .unset, .unset] [(.int hI), (.int hI)]))
    refine OGo.st (fun _ k_ => XS.icmpNo X173.here hx rfl (hb hby at_194) rfl (XT.ii_ne_f (by first | rfl | decide)) k_) ?_
    show OGo p.tables e below _ (T173.setTop (mkF m 197 #[.val (.long q1), .second, .val (.int p2), .val (.int p3), .val (.int p4), .val (.int cI), .val (.int hI), .val (.long cnt), .second, .val (.int (1 : Int32)), .val (.ref ca), .val (.long (2 : Int64)), .second, .val (.ref bz120), .val (.ref yq139), .val (.int (1 : Int32)), .val (.ref yq158), .unset, .unset] []))
    refine OGo.st (fun _ k_ => XS.aload X173.here hx rfl (hb hby at_197) rfl rfl k_) ?_
    show OGo p.tables e below _ (T173.setTop (mkF m 199 #[.val (.long q1), .second, .val (.int p2), .val (.int p3), .val (.int p4), .val (.int cI), .val (.int hI), .val (.long cnt), .second, .val (.int (1 : Int32)), .val (.ref ca), .val (.long (2 : Int64)), .second, .val (.ref bz120), .val (.ref yq139), .val (.int (1 : Int32)), .val (.ref yq158), .unset, .unset] [(.ref yq158)]))
    obtain ⟨cq174, kqz174, qz174a, qz174b, qz174c⟩ := isOf hZ ez173 Eq158
    obtain ⟨_, _, ⟨T174, Lz174, kz174, nz174⟩, -, X174, ⟨Lc174, hQ174, lz174, yz174, zz174⟩, st174⟩ := X173.virtualBack hx (y := (⟨"com/example/crivo/crivo/CountingParameters", "counterBits", "()I"⟩ : MethodName)) (z := (⟨"com/example/crivo/crivo/CountingParameters", "counterBits", "()I"⟩ : MethodName)) hown (mvT hZ (hw _ (List.mem_of_getElem? (i := 113) rfl))) (mvT hZ (hw _ (List.mem_of_getElem? (i := 114) rfl))) (notFace_of_selects (args := #[]) (mvT hZ (hw _ (List.mem_of_getElem? (i := 116) rfl)))) (mvT hZ (hw _ (List.mem_of_getElem? (i := 116) rfl))) (mvT hZ (hw _ (List.mem_of_getElem? (i := 115) rfl))) (by decide) (backOf (W := 0) (rm16 l Z a0 hw [] yq158 cI T158.heap n0 (Nat.le_trans Z0 K_171.1) fq158_2) hZ (hw _ (List.mem_of_getElem? (i := 117) rfl)) (hw _ (List.mem_of_getElem? (i := 7) rfl)) (by decide) (by decide)) qz174a qz174c (g := (mkF m 199 #[.val (.long q1), .second, .val (.int p2), .val (.int p3), .val (.int p4), .val (.int cI), .val (.int hI), .val (.long cnt), .second, .val (.int (1 : Int32)), .val (.ref ca), .val (.long (2 : Int64)), .second, .val (.ref bz120), .val (.ref yq139), .val (.int (1 : Int32)), .val (.ref yq158), .unset, .unset] [(.ref yq158)])) rfl (by rw [hml]; rfl) (Steps.refl _) (argsL := []) (rest := []) (lenOf own_pd12 rfl) rfl (by show 2 * 0 + _ ≤ _; exact Nat.le_of_eq rfl) (hb hby at_199) (fun _ _ => ⟨rfl, ez173, (by decide : 27 + 0 ≤ _), (by decide : 419 + 0 ≤ _)⟩)
    dsimp only [Pt.U, Pt.locs, Pt.cells, Pt.slots] at X174 lz174 yz174 zz174 st174 hQ174
    subst lz174 yz174 zz174
    obtain ⟨rfl, Nq174, ez174⟩ := hQ174
    have N174 := Fr.app N173 Nq174
    refine OGo.tr st174 ?_
    show OGo p.tables e below _ (T174.setTop (mkF m 202 #[.val (.long q1), .second, .val (.int p2), .val (.int p3), .val (.int p4), .val (.int cI), .val (.int hI), .val (.long cnt), .second, .val (.int (1 : Int32)), .val (.ref ca), .val (.long (2 : Int64)), .second, .val (.ref bz120), .val (.ref yq139), .val (.int (1 : Int32)), .val (.ref yq158), .unset, .unset] [(.int cI)]))
    refine OGo.st (fun _ k_ => XS.iload X174.here hx rfl (hb hby at_202) rfl k_) ?_
    show OGo p.tables e below _ (T174.setTop (mkF m 204 #[.val (.long q1), .second, .val (.int p2), .val (.int p3), .val (.int p4), .val (.int cI), .val (.int hI), .val (.long cnt), .second, .val (.int (1 : Int32)), .val (.ref ca), .val (.long (2 : Int64)), .second, .val (.ref bz120), .val (.ref yq139), .val (.int (1 : Int32)), .val (.ref yq158), .unset, .unset] [(.int cI), (.int cI)]))
    refine OGo.st (fun _ k_ => XS.icmpNo X174.here hx rfl (hb hby at_204) rfl (XT.ii_ne_f (by first | rfl | decide)) k_) ?_
    show OGo p.tables e below _ (T174.setTop (mkF m 207 #[.val (.long q1), .second, .val (.int p2), .val (.int p3), .val (.int p4), .val (.int cI), .val (.int hI), .val (.long cnt), .second, .val (.int (1 : Int32)), .val (.ref ca), .val (.long (2 : Int64)), .second, .val (.ref bz120), .val (.ref yq139), .val (.int (1 : Int32)), .val (.ref yq158), .unset, .unset] []))
    refine OGo.st (fun _ k_ => XS.aload X174.here hx rfl (hb hby at_207) rfl rfl k_) ?_
    show OGo p.tables e below _ (T174.setTop (mkF m 209 #[.val (.long q1), .second, .val (.int p2), .val (.int p3), .val (.int p4), .val (.int cI), .val (.int hI), .val (.long cnt), .second, .val (.int (1 : Int32)), .val (.ref ca), .val (.long (2 : Int64)), .second, .val (.ref bz120), .val (.ref yq139), .val (.int (1 : Int32)), .val (.ref yq158), .unset, .unset] [(.ref yq158)]))
    obtain ⟨cq175, kqz175, qz175a, qz175b, qz175c⟩ := isOf hZ ez174 Eq158
    obtain ⟨_, _, ⟨T175, Lz175, kz175, nz175⟩, -, X175, ⟨Lc175, hQ175, lz175, yz175, zz175⟩, st175⟩ := X174.virtualBack hx (y := (⟨"com/example/crivo/crivo/CountingParameters", "update", "()Lcom/example/crivo/crivo/UpdateRule;"⟩ : MethodName)) (z := (⟨"com/example/crivo/crivo/CountingParameters", "update", "()Lcom/example/crivo/crivo/UpdateRule;"⟩ : MethodName)) hown (mvT hZ (hw _ (List.mem_of_getElem? (i := 118) rfl))) (mvT hZ (hw _ (List.mem_of_getElem? (i := 119) rfl))) (notFace_of_selects (args := #[]) (mvT hZ (hw _ (List.mem_of_getElem? (i := 121) rfl)))) (mvT hZ (hw _ (List.mem_of_getElem? (i := 121) rfl))) (mvT hZ (hw _ (List.mem_of_getElem? (i := 120) rfl))) (by decide) (backOf (W := 0) (rm17 l Z a0 hw [] yq158 ca T158.heap n0 (Nat.le_trans Z0 K_171.1) fq158_3) hZ (hw _ (List.mem_of_getElem? (i := 122) rfl)) (hw _ (List.mem_of_getElem? (i := 7) rfl)) (by decide) (by decide)) qz175a qz175c (g := (mkF m 209 #[.val (.long q1), .second, .val (.int p2), .val (.int p3), .val (.int p4), .val (.int cI), .val (.int hI), .val (.long cnt), .second, .val (.int (1 : Int32)), .val (.ref ca), .val (.long (2 : Int64)), .second, .val (.ref bz120), .val (.ref yq139), .val (.int (1 : Int32)), .val (.ref yq158), .unset, .unset] [(.ref yq158)])) rfl (by rw [hml]; rfl) (Steps.refl _) (argsL := []) (rest := []) (lenOf own_pd13 rfl) rfl (by show 2 * 0 + _ ≤ _; exact Nat.le_of_eq rfl) (hb hby at_209) (fun _ _ => ⟨rfl, ez174, (by decide : 27 + 0 ≤ _), (by decide : 419 + 0 ≤ _)⟩)
    dsimp only [Pt.U, Pt.locs, Pt.cells, Pt.slots] at X175 lz175 yz175 zz175 st175 hQ175
    subst lz175 yz175 zz175
    obtain ⟨rfl, Nq175, ez175⟩ := hQ175
    have N175 := Fr.app N174 Nq175
    refine OGo.tr st175 ?_
    show OGo p.tables e below _ (T175.setTop (mkF m 212 #[.val (.long q1), .second, .val (.int p2), .val (.int p3), .val (.int p4), .val (.int cI), .val (.int hI), .val (.long cnt), .second, .val (.int (1 : Int32)), .val (.ref ca), .val (.long (2 : Int64)), .second, .val (.ref bz120), .val (.ref yq139), .val (.int (1 : Int32)), .val (.ref yq158), .unset, .unset] [(.ref ca)]))
    refine OGo.st (fun _ k_ => XS.aload X175.here hx rfl (hb hby at_212) rfl rfl k_) ?_
    show OGo p.tables e below _ (T175.setTop (mkF m 214 #[.val (.long q1), .second, .val (.int p2), .val (.int p3), .val (.int p4), .val (.int cI), .val (.int hI), .val (.long cnt), .second, .val (.int (1 : Int32)), .val (.ref ca), .val (.long (2 : Int64)), .second, .val (.ref bz120), .val (.ref yq139), .val (.int (1 : Int32)), .val (.ref yq158), .unset, .unset] [(.ref ca), (.ref ca)]))
    refine OGo.st (fun _ k_ => XT.acmpNo X175.here hx rfl (hb hby at_214) rfl rfl rfl (XT.aa_ne_f (by first | rfl | decide)) k_) ?_
    show OGo p.tables e below _ (T175.setTop (mkF m 217 #[.val (.long q1), .second, .val (.int p2), .val (.int p3), .val (.int p4), .val (.int cI), .val (.int hI), .val (.long cnt), .second, .val (.int (1 : Int32)), .val (.ref ca), .val (.long (2 : Int64)), .second, .val (.ref bz120), .val (.ref yq139), .val (.int (1 : Int32)), .val (.ref yq158), .unset, .unset] []))
    refine OGo.st (fun _ k_ => XS.iconst X175.here hx rfl (hb hby at_217) k_) ?_
    show OGo p.tables e below _ (T175.setTop (mkF m 218 #[.val (.long q1), .second, .val (.int p2), .val (.int p3), .val (.int p4), .val (.int cI), .val (.int hI), .val (.long cnt), .second, .val (.int (1 : Int32)), .val (.ref ca), .val (.long (2 : Int64)), .second, .val (.ref bz120), .val (.ref yq139), .val (.int (1 : Int32)), .val (.ref yq158), .unset, .unset] [(.int (1 : Int32))]))
    refine OGo.st (fun _ k_ => XS.goto X175.here hx rfl (pc0 := 218) (pc' := 222) rfl (hb hby at_218) (by decide) (by decide) k_) ?_
    show OGo p.tables e below _ (T175.setTop (mkF m 222 #[.val (.long q1), .second, .val (.int p2), .val (.int p3), .val (.int p4), .val (.int cI), .val (.int hI), .val (.long cnt), .second, .val (.int (1 : Int32)), .val (.ref ca), .val (.long (2 : Int64)), .second, .val (.ref bz120), .val (.ref yq139), .val (.int (1 : Int32)), .val (.ref yq158), .unset, .unset] [(.int (1 : Int32))]))
    refine OGo.st (fun _ k_ => XS.istore X175.here hx rfl (hb hby at_222) rfl (l' := #[.val (.long q1), .second, .val (.int p2), .val (.int p3), .val (.int p4), .val (.int cI), .val (.int hI), .val (.long cnt), .second, .val (.int (1 : Int32)), .val (.ref ca), .val (.long (2 : Int64)), .second, .val (.ref bz120), .val (.ref yq139), .val (.int (1 : Int32)), .val (.ref yq158), .val (.int (1 : Int32)), .unset]) rfl k_) ?_
    show OGo p.tables e below _ (T175.setTop (mkF m 224 #[.val (.long q1), .second, .val (.int p2), .val (.int p3), .val (.int p4), .val (.int cI), .val (.int hI), .val (.long cnt), .second, .val (.int (1 : Int32)), .val (.ref ca), .val (.long (2 : Int64)), .second, .val (.ref bz120), .val (.ref yq139), .val (.int (1 : Int32)), .val (.ref yq158), .val (.int (1 : Int32)), .unset] []))
    refine OGo.st (fun _ k_ => XS.aload X175.here hx rfl (hb hby at_224) rfl rfl k_) ?_
    show OGo p.tables e below _ (T175.setTop (mkF m 226 #[.val (.long q1), .second, .val (.int p2), .val (.int p3), .val (.int p4), .val (.int cI), .val (.int hI), .val (.long cnt), .second, .val (.int (1 : Int32)), .val (.ref ca), .val (.long (2 : Int64)), .second, .val (.ref bz120), .val (.ref yq139), .val (.int (1 : Int32)), .val (.ref yq158), .val (.int (1 : Int32)), .unset] [(.ref yq139)]))
    refine OGo.st (fun _ k_ => XS.iconst X175.here hx rfl (hb hby at_226) k_) ?_
    show OGo p.tables e below _ (T175.setTop (mkF m 227 #[.val (.long q1), .second, .val (.int p2), .val (.int p3), .val (.int p4), .val (.int cI), .val (.int hI), .val (.long cnt), .second, .val (.int (1 : Int32)), .val (.ref ca), .val (.long (2 : Int64)), .second, .val (.ref bz120), .val (.ref yq139), .val (.int (1 : Int32)), .val (.ref yq158), .val (.int (1 : Int32)), .unset] [(.int (0 : Int32)), (.ref yq139)]))
    refine OGo.st (fun _ k_ => XS.lconst X175.here hx rfl (hb hby at_227) k_) ?_
    show OGo p.tables e below _ (T175.setTop (mkF m 228 #[.val (.long q1), .second, .val (.int p2), .val (.int p3), .val (.int p4), .val (.int cI), .val (.int hI), .val (.long cnt), .second, .val (.int (1 : Int32)), .val (.ref ca), .val (.long (2 : Int64)), .second, .val (.ref bz120), .val (.ref yq139), .val (.int (1 : Int32)), .val (.ref yq158), .val (.int (1 : Int32)), .unset] [(.long (0 : Int64)), (.int (0 : Int32)), (.ref yq139)]))
    obtain ⟨T176, hz176, X176, ez176, W176, V176, st176⟩ := own_stJ X175 hx hZ ez175 Af_170 (j := (0 : Int32)) (by decide)  (g := (mkF m 228 #[.val (.long q1), .second, .val (.int p2), .val (.int p3), .val (.int p4), .val (.int cI), .val (.int hI), .val (.long cnt), .second, .val (.int (1 : Int32)), .val (.ref ca), .val (.long (2 : Int64)), .second, .val (.ref bz120), .val (.ref yq139), .val (.int (1 : Int32)), .val (.ref yq158), .val (.int (1 : Int32)), .unset] [(.long (0 : Int64)), (.int (0 : Int32)), (.ref yq139)])) rfl rfl (hb hby at_228)
    have Ex_177 := Ex_159.wr W176
    have Af_178 := Af_160.other W176 ne_va_yq139
    have Ex_179 := Ex_161.wr W176
    have F_180 := F_162.other W176 (Or.inl ne_pa_yq139)
    have Ex_181 := Ex_163.wr W176
    have F_182 := F_164.other W176 (Or.inl ne_ca_yq139)
    have Ex_183 := Ex_165.wr W176
    have F_184 := F_166.other W176 (Or.inl ne_bz120_yq139)
    have F_185 := F_167.other W176 (Or.inl ne_bz120_yq139)
    have F_186 := F_168.other W176 (Or.inl ne_bz120_yq139)
    have F_187 := F_169.other W176 (Or.inl ne_bz120_yq139)
    have Ex_188 := Eq158.wr W176
    have F_189 := fq158_0.other W176 (Or.inl (Ne.symm ne_yq139_yq158))
    have F_190 := fq158_1.other W176 (Or.inl (Ne.symm ne_yq139_yq158))
    have F_191 := fq158_2.other W176 (Or.inl (Ne.symm ne_yq139_yq158))
    have F_192 := fq158_3.other W176 (Or.inl (Ne.symm ne_yq139_yq158))
    have O193 := O158.wr W176 own_sf
    have N176 := Fr.snoc X176 N175 gq139
    have K_194 : Keep h0 hz176 [] := K_171.wr W176 (Or.inr szq139)
    refine OGo.st st176 ?_
    show OGo p.tables e below _ (T176.setTop (mkF m 229 #[.val (.long q1), .second, .val (.int p2), .val (.int p3), .val (.int p4), .val (.int cI), .val (.int hI), .val (.long cnt), .second, .val (.int (1 : Int32)), .val (.ref ca), .val (.long (2 : Int64)), .second, .val (.ref bz120), .val (.ref yq139), .val (.int (1 : Int32)), .val (.ref yq158), .val (.int (1 : Int32)), .unset] []))
    refine OGo.st (fun _ k_ => XS.aload X176.here hx rfl (hb hby at_229) rfl rfl k_) ?_
    show OGo p.tables e below _ (T176.setTop (mkF m 231 #[.val (.long q1), .second, .val (.int p2), .val (.int p3), .val (.int p4), .val (.int cI), .val (.int hI), .val (.long cnt), .second, .val (.int (1 : Int32)), .val (.ref ca), .val (.long (2 : Int64)), .second, .val (.ref bz120), .val (.ref yq139), .val (.int (1 : Int32)), .val (.ref yq158), .val (.int (1 : Int32)), .unset] [(.ref yq139)]))
    refine OGo.st (fun _ k_ => XS.iconst X176.here hx rfl (hb hby at_231) k_) ?_
    show OGo p.tables e below _ (T176.setTop (mkF m 232 #[.val (.long q1), .second, .val (.int p2), .val (.int p3), .val (.int p4), .val (.int cI), .val (.int hI), .val (.long cnt), .second, .val (.int (1 : Int32)), .val (.ref ca), .val (.long (2 : Int64)), .second, .val (.ref bz120), .val (.ref yq139), .val (.int (1 : Int32)), .val (.ref yq158), .val (.int (1 : Int32)), .unset] [(.int (3 : Int32)), (.ref yq139)]))
    refine OGo.st (fun _ k_ => XS.lconst X176.here hx rfl (hb hby at_232) k_) ?_
    show OGo p.tables e below _ (T176.setTop (mkF m 233 #[.val (.long q1), .second, .val (.int p2), .val (.int p3), .val (.int p4), .val (.int cI), .val (.int hI), .val (.long cnt), .second, .val (.int (1 : Int32)), .val (.ref ca), .val (.long (2 : Int64)), .second, .val (.ref bz120), .val (.ref yq139), .val (.int (1 : Int32)), .val (.ref yq158), .val (.int (1 : Int32)), .unset] [(.long (0 : Int64)), (.int (3 : Int32)), (.ref yq139)]))
    obtain ⟨T195, hz195, X195, ez195, W195, V195, st195⟩ := own_stJ X176 hx hZ ez176 V176 (j := (3 : Int32)) (by decide)  (g := (mkF m 233 #[.val (.long q1), .second, .val (.int p2), .val (.int p3), .val (.int p4), .val (.int cI), .val (.int hI), .val (.long cnt), .second, .val (.int (1 : Int32)), .val (.ref ca), .val (.long (2 : Int64)), .second, .val (.ref bz120), .val (.ref yq139), .val (.int (1 : Int32)), .val (.ref yq158), .val (.int (1 : Int32)), .unset] [(.long (0 : Int64)), (.int (3 : Int32)), (.ref yq139)])) rfl rfl (hb hby at_233)
    have Ex_196 := Ex_177.wr W195
    have Af_197 := Af_178.other W195 ne_va_yq139
    have Ex_198 := Ex_179.wr W195
    have F_199 := F_180.other W195 (Or.inl ne_pa_yq139)
    have Ex_200 := Ex_181.wr W195
    have F_201 := F_182.other W195 (Or.inl ne_ca_yq139)
    have Ex_202 := Ex_183.wr W195
    have F_203 := F_184.other W195 (Or.inl ne_bz120_yq139)
    have F_204 := F_185.other W195 (Or.inl ne_bz120_yq139)
    have F_205 := F_186.other W195 (Or.inl ne_bz120_yq139)
    have F_206 := F_187.other W195 (Or.inl ne_bz120_yq139)
    have Ex_207 := Ex_188.wr W195
    have F_208 := F_189.other W195 (Or.inl (Ne.symm ne_yq139_yq158))
    have F_209 := F_190.other W195 (Or.inl (Ne.symm ne_yq139_yq158))
    have F_210 := F_191.other W195 (Or.inl (Ne.symm ne_yq139_yq158))
    have F_211 := F_192.other W195 (Or.inl (Ne.symm ne_yq139_yq158))
    have O212 := O193.wr W195 own_sf
    have N195 := Fr.snoc X195 N176 gq139
    have K_213 : Keep h0 hz195 [] := K_194.wr W195 (Or.inr szq139)
    refine OGo.st st195 ?_
    show OGo p.tables e below _ (T195.setTop (mkF m 234 #[.val (.long q1), .second, .val (.int p2), .val (.int p3), .val (.int p4), .val (.int cI), .val (.int hI), .val (.long cnt), .second, .val (.int (1 : Int32)), .val (.ref ca), .val (.long (2 : Int64)), .second, .val (.ref bz120), .val (.ref yq139), .val (.int (1 : Int32)), .val (.ref yq158), .val (.int (1 : Int32)), .unset] []))
    refine OGo.st (fun _ k_ => XS.aload X195.here hx rfl (hb hby at_234) rfl rfl k_) ?_
    show OGo p.tables e below _ (T195.setTop (mkF m 236 #[.val (.long q1), .second, .val (.int p2), .val (.int p3), .val (.int p4), .val (.int cI), .val (.int hI), .val (.long cnt), .second, .val (.int (1 : Int32)), .val (.ref ca), .val (.long (2 : Int64)), .second, .val (.ref bz120), .val (.ref yq139), .val (.int (1 : Int32)), .val (.ref yq158), .val (.int (1 : Int32)), .unset] [(.ref bz120)]))
    obtain ⟨cq214, kqz214, qz214a, qz214b, qz214c⟩ := isOf hZ ez195 Ex_202
    obtain ⟨_, _, ⟨T214, Lz214, kz214, nz214⟩, -, X214, ⟨Lc214, hQ214, lz214, yz214, zz214⟩, st214⟩ := X195.virtualBack hx (y := (⟨"com/example/crivo/crivo/CountingParameters", "toFile", "()[J"⟩ : MethodName)) (z := (⟨"com/example/crivo/crivo/CountingParameters", "toFile", "()[J"⟩ : MethodName)) hown (mvT hZ (hw _ (List.mem_of_getElem? (i := 56) rfl))) (mvT hZ (hw _ (List.mem_of_getElem? (i := 57) rfl))) (notFace_of_selects (args := #[]) (mvT hZ (hw _ (List.mem_of_getElem? (i := 59) rfl)))) (mvT hZ (hw _ (List.mem_of_getElem? (i := 59) rfl))) (mvT hZ (hw _ (List.mem_of_getElem? (i := 58) rfl))) (by decide) (backOf (W := 0) (rm12 l Z a0 hw [] bz120 cnt hI cI ca (2 : Int32) hz195 n0 (Nat.le_trans Z0 K_213.1) F_203 F_204 F_205 F_206 F_201) hZ (hw _ (List.mem_of_getElem? (i := 60) rfl)) (hw _ (List.mem_of_getElem? (i := 7) rfl)) (by decide) (by decide)) qz214a qz214c (g := (mkF m 236 #[.val (.long q1), .second, .val (.int p2), .val (.int p3), .val (.int p4), .val (.int cI), .val (.int hI), .val (.long cnt), .second, .val (.int (1 : Int32)), .val (.ref ca), .val (.long (2 : Int64)), .second, .val (.ref bz120), .val (.ref yq139), .val (.int (1 : Int32)), .val (.ref yq158), .val (.int (1 : Int32)), .unset] [(.ref bz120)])) rfl (by rw [hml]; rfl) (Steps.refl _) (argsL := []) (rest := []) (lenOf own_pd9 rfl) rfl (by show 2 * 0 + _ ≤ _; exact Nat.le_of_eq rfl) (hb hby at_236) (fun _ _ => ⟨rfl, ez195, (by decide : 27 + 1 ≤ _), (by decide : 419 + 4 ≤ _)⟩)
    dsimp only [Pt.U, Pt.locs, Pt.cells, Pt.slots] at X214 lz214 yz214 zz214 st214 hQ214
    subst lz214 yz214 zz214
    obtain ⟨yq214, kq214, rfl, Nq214, Kq214, gq214, sq214, Aq214⟩ := hQ214
    have N214 := Fr.app N195 Nq214
    have ne_va_yq214 : va ≠ yq214 := Nat.ne_of_lt (Nat.lt_of_lt_of_le Ex_196.lt sq214)
    have ne_pa_yq214 : pa ≠ yq214 := Nat.ne_of_lt (Nat.lt_of_lt_of_le Ex_198.lt sq214)
    have ne_ca_yq214 : ca ≠ yq214 := Nat.ne_of_lt (Nat.lt_of_lt_of_le Ex_200.lt sq214)
    have ne_bz120_yq214 : bz120 ≠ yq214 := Nat.ne_of_lt (Nat.lt_of_lt_of_le Ex_202.lt sq214)
    have ne_yq158_yq214 : yq158 ≠ yq214 := Nat.ne_of_lt (Nat.lt_of_lt_of_le Ex_207.lt sq214)
    have ne_yq139_yq214 : yq139 ≠ yq214 := Nat.ne_of_lt (Nat.lt_of_lt_of_le V195.lt sq214)
    have szq214 : h0.size ≤ yq214 := Nat.le_trans K_213.1 sq214
    have Ex_215 := Ex_196.keep Kq214
    have Af_216 := Af_197.keep Kq214 nin0
    have Ex_217 := Ex_198.keep Kq214
    have F_218 := F_199.keep Kq214 nin0
    have Ex_219 := Ex_200.keep Kq214
    have F_220 := F_201.keep Kq214 nin0
    have Ex_221 := Ex_202.keep Kq214
    have F_222 := F_203.keep Kq214 nin0
    have F_223 := F_204.keep Kq214 nin0
    have F_224 := F_205.keep Kq214 nin0
    have F_225 := F_206.keep Kq214 nin0
    have Ex_226 := Ex_207.keep Kq214
    have F_227 := F_208.keep Kq214 nin0
    have F_228 := F_209.keep Kq214 nin0
    have F_229 := F_210.keep Kq214 nin0
    have F_230 := F_211.keep Kq214 nin0
    have Af_231 := V195.keep Kq214 nin0
    have hsk232 : ∀ x ∈ ([] : List Addr), Safe Z own_EL T158.vm hz195 x := all0
    have O232 := O212.keep Kq214 hsk232
    have K_233 : Keep h0 T214.heap [] := K_213.trans Kq214 all0
    refine OGo.tr st214 ?_
    show OGo p.tables e below _ (T214.setTop (mkF m 239 #[.val (.long q1), .second, .val (.int p2), .val (.int p3), .val (.int p4), .val (.int cI), .val (.int hI), .val (.long cnt), .second, .val (.int (1 : Int32)), .val (.ref ca), .val (.long (2 : Int64)), .second, .val (.ref bz120), .val (.ref yq139), .val (.int (1 : Int32)), .val (.ref yq158), .val (.int (1 : Int32)), .unset] [(.ref yq214)]))
    refine OGo.st (fun _ k_ => XS.astore X214.here hx rfl (hb hby at_239) rfl rfl (l' := #[.val (.long q1), .second, .val (.int p2), .val (.int p3), .val (.int p4), .val (.int cI), .val (.int hI), .val (.long cnt), .second, .val (.int (1 : Int32)), .val (.ref ca), .val (.long (2 : Int64)), .second, .val (.ref bz120), .val (.ref yq139), .val (.int (1 : Int32)), .val (.ref yq158), .val (.int (1 : Int32)), .val (.ref yq214)]) rfl k_) ?_
    show OGo p.tables e below _ (T214.setTop (mkF m 241 #[.val (.long q1), .second, .val (.int p2), .val (.int p3), .val (.int p4), .val (.int cI), .val (.int hI), .val (.long cnt), .second, .val (.int (1 : Int32)), .val (.ref ca), .val (.long (2 : Int64)), .second, .val (.ref bz120), .val (.ref yq139), .val (.int (1 : Int32)), .val (.ref yq158), .val (.int (1 : Int32)), .val (.ref yq214)] []))
    refine OGo.st (fun _ k_ => XS.iload X214.here hx rfl (hb hby at_241) rfl k_) ?_
    show OGo p.tables e below _ (T214.setTop (mkF m 243 #[.val (.long q1), .second, .val (.int p2), .val (.int p3), .val (.int p4), .val (.int cI), .val (.int hI), .val (.long cnt), .second, .val (.int (1 : Int32)), .val (.ref ca), .val (.long (2 : Int64)), .second, .val (.ref bz120), .val (.ref yq139), .val (.int (1 : Int32)), .val (.ref yq158), .val (.int (1 : Int32)), .val (.ref yq214)] [(.int (1 : Int32))]))
    refine OGo.st (fun _ k_ => XS.ifNo X214.here hx rfl (hb hby at_243) rfl (XT.i0_eq_f (by decide)) k_) ?_
    show OGo p.tables e below _ (T214.setTop (mkF m 246 #[.val (.long q1), .second, .val (.int p2), .val (.int p3), .val (.int p4), .val (.int cI), .val (.int hI), .val (.long cnt), .second, .val (.int (1 : Int32)), .val (.ref ca), .val (.long (2 : Int64)), .second, .val (.ref bz120), .val (.ref yq139), .val (.int (1 : Int32)), .val (.ref yq158), .val (.int (1 : Int32)), .val (.ref yq214)] []))
    refine OGo.st (fun _ k_ => XS.aload X214.here hx rfl (hb hby at_246) rfl rfl k_) ?_
    show OGo p.tables e below _ (T214.setTop (mkF m 248 #[.val (.long q1), .second, .val (.int p2), .val (.int p3), .val (.int p4), .val (.int cI), .val (.int hI), .val (.long cnt), .second, .val (.int (1 : Int32)), .val (.ref ca), .val (.long (2 : Int64)), .second, .val (.ref bz120), .val (.ref yq139), .val (.int (1 : Int32)), .val (.ref yq158), .val (.int (1 : Int32)), .val (.ref yq214)] [(.ref yq214)]))
    refine OGo.st (fun _ k_ => XT.nullNo X214.here hx rfl (hb hby at_248) rfl rfl (fun q => nomatch q) k_) ?_
    show OGo p.tables e below _ (T214.setTop (mkF m 251 #[.val (.long q1), .second, .val (.int p2), .val (.int p3), .val (.int p4), .val (.int cI), .val (.int hI), .val (.long cnt), .second, .val (.int (1 : Int32)), .val (.ref ca), .val (.long (2 : Int64)), .second, .val (.ref bz120), .val (.ref yq139), .val (.int (1 : Int32)), .val (.ref yq158), .val (.int (1 : Int32)), .val (.ref yq214)] []))
    refine OGo.st (fun _ k_ => XS.aload X214.here hx rfl (hb hby at_251) rfl rfl k_) ?_
    show OGo p.tables e below _ (T214.setTop (mkF m 253 #[.val (.long q1), .second, .val (.int p2), .val (.int p3), .val (.int p4), .val (.int cI), .val (.int hI), .val (.long cnt), .second, .val (.int (1 : Int32)), .val (.ref ca), .val (.long (2 : Int64)), .second, .val (.ref bz120), .val (.ref yq139), .val (.int (1 : Int32)), .val (.ref yq158), .val (.int (1 : Int32)), .val (.ref yq214)] [(.ref yq214)]))
    have qz234 := own_alen X214 hx hZ rfl Aq214 (g := (mkF m 253 #[.val (.long q1), .second, .val (.int p2), .val (.int p3), .val (.int p4), .val (.int cI), .val (.int hI), .val (.long cnt), .second, .val (.int (1 : Int32)), .val (.ref ca), .val (.long (2 : Int64)), .second, .val (.ref bz120), .val (.ref yq139), .val (.int (1 : Int32)), .val (.ref yq158), .val (.int (1 : Int32)), .val (.ref yq214)] [(.ref yq214)])) rfl rfl (hb hby at_253)
    refine OGo.st qz234 ?_
    show OGo p.tables e below _ (T214.setTop (mkF m 254 #[.val (.long q1), .second, .val (.int p2), .val (.int p3), .val (.int p4), .val (.int cI), .val (.int hI), .val (.long cnt), .second, .val (.int (1 : Int32)), .val (.ref ca), .val (.long (2 : Int64)), .second, .val (.ref bz120), .val (.ref yq139), .val (.int (1 : Int32)), .val (.ref yq158), .val (.int (1 : Int32)), .val (.ref yq214)] [(.int (4 : Int32))]))
    refine OGo.st (fun _ k_ => XS.iconst X214.here hx rfl (hb hby at_254) k_) ?_
    show OGo p.tables e below _ (T214.setTop (mkF m 255 #[.val (.long q1), .second, .val (.int p2), .val (.int p3), .val (.int p4), .val (.int cI), .val (.int hI), .val (.long cnt), .second, .val (.int (1 : Int32)), .val (.ref ca), .val (.long (2 : Int64)), .second, .val (.ref bz120), .val (.ref yq139), .val (.int (1 : Int32)), .val (.ref yq158), .val (.int (1 : Int32)), .val (.ref yq214)] [(.int (4 : Int32)), (.int (4 : Int32))]))
    refine OGo.st (fun _ k_ => XS.icmpNo X214.here hx rfl (hb hby at_255) rfl (XT.ii_ne_f (by decide)) k_) ?_
    show OGo p.tables e below _ (T214.setTop (mkF m 258 #[.val (.long q1), .second, .val (.int p2), .val (.int p3), .val (.int p4), .val (.int cI), .val (.int hI), .val (.long cnt), .second, .val (.int (1 : Int32)), .val (.ref ca), .val (.long (2 : Int64)), .second, .val (.ref bz120), .val (.ref yq139), .val (.int (1 : Int32)), .val (.ref yq158), .val (.int (1 : Int32)), .val (.ref yq214)] []))
    refine OGo.st (fun _ k_ => XS.aload X214.here hx rfl (hb hby at_258) rfl rfl k_) ?_
    show OGo p.tables e below _ (T214.setTop (mkF m 260 #[.val (.long q1), .second, .val (.int p2), .val (.int p3), .val (.int p4), .val (.int cI), .val (.int hI), .val (.long cnt), .second, .val (.int (1 : Int32)), .val (.ref ca), .val (.long (2 : Int64)), .second, .val (.ref bz120), .val (.ref yq139), .val (.int (1 : Int32)), .val (.ref yq158), .val (.int (1 : Int32)), .val (.ref yq214)] [(.ref yq214)]))
    refine OGo.st (fun _ k_ => XS.iconst X214.here hx rfl (hb hby at_260) k_) ?_
    show OGo p.tables e below _ (T214.setTop (mkF m 261 #[.val (.long q1), .second, .val (.int p2), .val (.int p3), .val (.int p4), .val (.int cI), .val (.int hI), .val (.long cnt), .second, .val (.int (1 : Int32)), .val (.ref ca), .val (.long (2 : Int64)), .second, .val (.ref bz120), .val (.ref yq139), .val (.int (1 : Int32)), .val (.ref yq158), .val (.int (1 : Int32)), .val (.ref yq214)] [(.int (0 : Int32)), (.ref yq214)]))
    have qz235 := own_ldJ X214 hx hZ rfl Aq214 (j := (0 : Int32)) (v := cnt) (by decide) rfl (g := (mkF m 261 #[.val (.long q1), .second, .val (.int p2), .val (.int p3), .val (.int p4), .val (.int cI), .val (.int hI), .val (.long cnt), .second, .val (.int (1 : Int32)), .val (.ref ca), .val (.long (2 : Int64)), .second, .val (.ref bz120), .val (.ref yq139), .val (.int (1 : Int32)), .val (.ref yq158), .val (.int (1 : Int32)), .val (.ref yq214)] [(.int (0 : Int32)), (.ref yq214)])) rfl rfl (hb hby at_261)
    refine OGo.st qz235 ?_
    show OGo p.tables e below _ (T214.setTop (mkF m 262 #[.val (.long q1), .second, .val (.int p2), .val (.int p3), .val (.int p4), .val (.int cI), .val (.int hI), .val (.long cnt), .second, .val (.int (1 : Int32)), .val (.ref ca), .val (.long (2 : Int64)), .second, .val (.ref bz120), .val (.ref yq139), .val (.int (1 : Int32)), .val (.ref yq158), .val (.int (1 : Int32)), .val (.ref yq214)] [(.long cnt)]))
    refine OGo.st (fun _ k_ => XS.lload X214.here hx rfl (hb hby at_262) rfl k_) ?_
    show OGo p.tables e below _ (T214.setTop (mkF m 264 #[.val (.long q1), .second, .val (.int p2), .val (.int p3), .val (.int p4), .val (.int cI), .val (.int hI), .val (.long cnt), .second, .val (.int (1 : Int32)), .val (.ref ca), .val (.long (2 : Int64)), .second, .val (.ref bz120), .val (.ref yq139), .val (.int (1 : Int32)), .val (.ref yq158), .val (.int (1 : Int32)), .val (.ref yq214)] [(.long cnt), (.long cnt)]))
    refine OGo.st (fun _ k_ => XT.lcmp X214.here hx rfl (hb hby at_264) rfl k_) ?_
    show OGo p.tables e below _ (T214.setTop (mkF m 265 #[.val (.long q1), .second, .val (.int p2), .val (.int p3), .val (.int p4), .val (.int cI), .val (.int hI), .val (.long cnt), .second, .val (.int (1 : Int32)), .val (.ref ca), .val (.long (2 : Int64)), .second, .val (.ref bz120), .val (.ref yq139), .val (.int (1 : Int32)), .val (.ref yq158), .val (.int (1 : Int32)), .val (.ref yq214)] [(.int (XT.cmpL cnt cnt))]))
    refine OGo.st (fun _ k_ => XS.ifNo X214.here hx rfl (hb hby at_265) rfl (XT.ll_ne_f (by first | rfl | decide)) k_) ?_
    show OGo p.tables e below _ (T214.setTop (mkF m 268 #[.val (.long q1), .second, .val (.int p2), .val (.int p3), .val (.int p4), .val (.int cI), .val (.int hI), .val (.long cnt), .second, .val (.int (1 : Int32)), .val (.ref ca), .val (.long (2 : Int64)), .second, .val (.ref bz120), .val (.ref yq139), .val (.int (1 : Int32)), .val (.ref yq158), .val (.int (1 : Int32)), .val (.ref yq214)] []))
    refine OGo.st (fun _ k_ => XS.aload X214.here hx rfl (hb hby at_268) rfl rfl k_) ?_
    show OGo p.tables e below _ (T214.setTop (mkF m 270 #[.val (.long q1), .second, .val (.int p2), .val (.int p3), .val (.int p4), .val (.int cI), .val (.int hI), .val (.long cnt), .second, .val (.int (1 : Int32)), .val (.ref ca), .val (.long (2 : Int64)), .second, .val (.ref bz120), .val (.ref yq139), .val (.int (1 : Int32)), .val (.ref yq158), .val (.int (1 : Int32)), .val (.ref yq214)] [(.ref yq214)]))
    refine OGo.st (fun _ k_ => XS.iconst X214.here hx rfl (hb hby at_270) k_) ?_
    show OGo p.tables e below _ (T214.setTop (mkF m 271 #[.val (.long q1), .second, .val (.int p2), .val (.int p3), .val (.int p4), .val (.int cI), .val (.int hI), .val (.long cnt), .second, .val (.int (1 : Int32)), .val (.ref ca), .val (.long (2 : Int64)), .second, .val (.ref bz120), .val (.ref yq139), .val (.int (1 : Int32)), .val (.ref yq158), .val (.int (1 : Int32)), .val (.ref yq214)] [(.int (3 : Int32)), (.ref yq214)]))
    have qz236 := own_ldJ X214 hx hZ rfl Aq214 (j := (3 : Int32)) (v := (2 : Int32).toInt64) (by decide) rfl (g := (mkF m 271 #[.val (.long q1), .second, .val (.int p2), .val (.int p3), .val (.int p4), .val (.int cI), .val (.int hI), .val (.long cnt), .second, .val (.int (1 : Int32)), .val (.ref ca), .val (.long (2 : Int64)), .second, .val (.ref bz120), .val (.ref yq139), .val (.int (1 : Int32)), .val (.ref yq158), .val (.int (1 : Int32)), .val (.ref yq214)] [(.int (3 : Int32)), (.ref yq214)])) rfl rfl (hb hby at_271)
    refine OGo.st qz236 ?_
    show OGo p.tables e below _ (T214.setTop (mkF m 272 #[.val (.long q1), .second, .val (.int p2), .val (.int p3), .val (.int p4), .val (.int cI), .val (.int hI), .val (.long cnt), .second, .val (.int (1 : Int32)), .val (.ref ca), .val (.long (2 : Int64)), .second, .val (.ref bz120), .val (.ref yq139), .val (.int (1 : Int32)), .val (.ref yq158), .val (.int (1 : Int32)), .val (.ref yq214)] [(.long (2 : Int32).toInt64)]))
    refine OGo.st (fun _ k_ => XS.lload X214.here hx rfl (hb hby at_272) rfl k_) ?_
    show OGo p.tables e below _ (T214.setTop (mkF m 274 #[.val (.long q1), .second, .val (.int p2), .val (.int p3), .val (.int p4), .val (.int cI), .val (.int hI), .val (.long cnt), .second, .val (.int (1 : Int32)), .val (.ref ca), .val (.long (2 : Int64)), .second, .val (.ref bz120), .val (.ref yq139), .val (.int (1 : Int32)), .val (.ref yq158), .val (.int (1 : Int32)), .val (.ref yq214)] [(.long (2 : Int64)), (.long (2 : Int32).toInt64)]))
    refine OGo.st (fun _ k_ => XT.lcmp X214.here hx rfl (hb hby at_274) rfl k_) ?_
    show OGo p.tables e below _ (T214.setTop (mkF m 275 #[.val (.long q1), .second, .val (.int p2), .val (.int p3), .val (.int p4), .val (.int cI), .val (.int hI), .val (.long cnt), .second, .val (.int (1 : Int32)), .val (.ref ca), .val (.long (2 : Int64)), .second, .val (.ref bz120), .val (.ref yq139), .val (.int (1 : Int32)), .val (.ref yq158), .val (.int (1 : Int32)), .val (.ref yq214)] [(.int (XT.cmpL (2 : Int32).toInt64 (2 : Int64)))]))
    refine OGo.st (fun _ k_ => XS.ifNo X214.here hx rfl (hb hby at_275) rfl (XT.ll_ne_f (by first | rfl | decide)) k_) ?_
    show OGo p.tables e below _ (T214.setTop (mkF m 278 #[.val (.long q1), .second, .val (.int p2), .val (.int p3), .val (.int p4), .val (.int cI), .val (.int hI), .val (.long cnt), .second, .val (.int (1 : Int32)), .val (.ref ca), .val (.long (2 : Int64)), .second, .val (.ref bz120), .val (.ref yq139), .val (.int (1 : Int32)), .val (.ref yq158), .val (.int (1 : Int32)), .val (.ref yq214)] []))
    refine OGo.st (fun _ k_ => XS.iconst X214.here hx rfl (hb hby at_278) k_) ?_
    show OGo p.tables e below _ (T214.setTop (mkF m 279 #[.val (.long q1), .second, .val (.int p2), .val (.int p3), .val (.int p4), .val (.int cI), .val (.int hI), .val (.long cnt), .second, .val (.int (1 : Int32)), .val (.ref ca), .val (.long (2 : Int64)), .second, .val (.ref bz120), .val (.ref yq139), .val (.int (1 : Int32)), .val (.ref yq158), .val (.int (1 : Int32)), .val (.ref yq214)] [(.int (1 : Int32))]))
    refine OGo.st (fun _ k_ => XS.goto X214.here hx rfl (pc0 := 279) (pc' := 283) rfl (hb hby at_279) (by decide) (by decide) k_) ?_
    show OGo p.tables e below _ (T214.setTop (mkF m 283 #[.val (.long q1), .second, .val (.int p2), .val (.int p3), .val (.int p4), .val (.int cI), .val (.int hI), .val (.long cnt), .second, .val (.int (1 : Int32)), .val (.ref ca), .val (.long (2 : Int64)), .second, .val (.ref bz120), .val (.ref yq139), .val (.int (1 : Int32)), .val (.ref yq158), .val (.int (1 : Int32)), .val (.ref yq214)] [(.int (1 : Int32))]))
    refine OGo.finS X214 rfl O232 (own_EW hw) hh (v := some (.int (1 : Int32))) (fun h => by rw [Bd.returns] at h; cases h) hlk (fun fs hr => X214.ireturnOut hx Bd.returns rfl (by simp) (hb hby at_283) hr) ?_ (by decide) (by decide)
    show own_Q_rm0 Z q1 p2 p3 p4 va k pa ca h0 n0 _ T214.heap _
    skip
    exact ⟨rfl, N214⟩
theorem own_ord {args : Array Value} {s : State} {t : Term} {w : Addr} {o : Int32} {C n d : String} (ev : t.eval args s none [] s = some (.ref w)) (c : (Jvm.Cond.eq (.field t C n d) (.int o)).value args s none s [] = some true) : Fld s s.heap w C n d (.int o) := by
  obtain ⟨x, y, e1, e2, -, -⟩ := cmp_v (Or.inl c)
  have e3 := e1
  rw [fld_at ev] at e3
  have e4 : y = .int o := by simp [Term.eval] at e2; exact e2.symm
  subst e4
  have : x = .int o := by
    simp only [Cond.value, e1, e2] at c
    cases x <;> simp at c
    exact congrArg Value.int c
  subst this
  exact Fld.start e3
theorem own_refeq {args : Array Value} {s : State} {t u : Term} {w : Addr} (ev : u.eval args s none [] s = some (.ref w)) (c : (Jvm.Cond.eq t u).value args s none s [] = some true) : t.eval args s none [] s = some (.ref w) := by
  obtain ⟨x, y, e1, e2, -, -⟩ := cmp_v (Or.inl c)
  rw [ev] at e2; cases e2
  rw [e1]
  simp only [Cond.value, e1, ev] at c
  cases x <;> simp at c
  rw [c]
theorem own_arrS {args : Array Value} {s : State} {t tp tc : Term} {va pa ca : Addr} {C : String} {cl : Cell} (ev : t.eval args s none [] s = some (.ref va)) (A : Arr s s.heap va cl (.object C)) (hl : (Jvm.Cond.eq (.length t) (.int 2)).value args s none s [] = some true)
    (ep : tp.eval args s none [] s = some (.ref pa)) (h0 : (Jvm.Cond.eq (.elem t (.int 0)) tp).value args s none s [] = some true) (ec : tc.eval args s none [] s = some (.ref ca)) (h1 : (Jvm.Cond.eq (.elem t (.int 1)) tc).value args s none s [] = some true) : Arf s s.heap va cl.cls (.object C) 2 (own_P pa ca) := by
  have e0 := (elem_in (own_refeq ep h0) ev (j := 0) (by simp [Term.eval]) A.1).2
  have e1 := (elem_in (own_refeq ec h1) ev (j := 1) (by simp [Term.eval]) A.1).2
  have S : cl.slots.size = 2 := by
    obtain ⟨x, y, q1, q2, -, -⟩ := cmp_v (Or.inl hl)
    obtain ⟨a', c', q3, q4, q5⟩ := Term.length_spec q1
    rw [ev] at q3; cases q3
    have q6 : c' = cl := by
      simp only [State.arrayAt?, Option.bind_eq_bind, Option.bind_eq_some_iff] at q4
      obtain ⟨c2, r1, r2⟩ := q4
      cases A.1.symm.trans r1
      simp at r2
      obtain ⟨kk, -, -, r3⟩ := r2
      split at r3
      · exact (Option.some.inj r3).symm
      · cases r3
    subst q6
    have q7 : c'.slots.size < 2 ^ 31 := Classical.byContradiction fun hn => by simp [Term.eval, ev, q4, hn] at q1
    have q8 : c'.slots.size.toInt32 = 2 := by
      have : y = .int 2 := by simp [Term.eval] at q2; exact q2.symm
      subst this
      simp only [Cond.value, q1, q2, q5] at hl
      simpa using hl
    have q9 := congrArg Int32.toInt q8
    have q10 : (c'.slots.size.toInt32).toInt = c'.slots.size := by
      show (BitVec.ofNat 32 c'.slots.size).toInt = _
      rw [BitVec.toInt_eq_toNat_of_lt (by simp; omega)]; simp; omega
    rw [q10] at q9
    have : (2 : Int32).toInt = 2 := rfl
    omega
  refine ⟨cl, A, rfl, S, by decide, fun i hi => ?_, fun i hi => ?_⟩
  · match i, (S ▸ hi : i < 2) with
    | 0, _ => exact e0
    | 1, _ => exact e1
    | (n + 2), q => exact absurd q (by omega)
  · unfold own_P; split <;> rfl

set_option maxRecDepth 65536 in
set_option maxHeartbeats 40000000 in
theorem comes_1 {Post : Tables → Env → Array Value → State → Outcome → State → Prop} (hpost : ∀ tb e args s v u, (limb_1_1.after args s (.returned v) u = true ∧ limb_1_2.after args s (.returned v) u = true ∧ True) → FramedW s (.returned v) u (Jvm.fieldLocs frame_1_writes args s ++ Jvm.arrayLocs frame_1_arrays args s ++ Jvm.staticLocs frame_1_statics s) 32 4224 → Post tb e args s (.returned v) u) :
    ArmFor flags0 classFile x code maxLocals ret World_1 tables_1 room_1 Calls_1 rest_1 Pre_1 Post := by
  intro l hfl _ _ p e ha hc hk s m args below hf hA hF happ hP
  obtain ⟨hcalls, hrest, hpre⟩ := hP
  obtain ⟨-, -, -, hnamed, -, -, -, hat⟩ := (Spec.applies_iff hf).mp happ
  obtain ⟨hg, hn⟩ := and_e (Cond.before_iff.mp (show (Jvm.Cond.and given_1 narrow_1).before args s = true from hpre))
  obtain ⟨g0, r0⟩ := and_e hg
  obtain ⟨a0, r1⟩ := and_e r0
  obtain ⟨a1, r2⟩ := and_e r1
  obtain ⟨a2, r3⟩ := and_e r2
  obtain ⟨w0, w1, w2, w3, rfl⟩ : ∃ w0 w1 w2 w3 : Value, args = #[w0, w1, w2, w3] := by
    have hs : args.size = 4 := by simpa [Cond.value, given_1] using g0
    obtain ⟨L⟩ := args
    match L, hs with
    | [w0, w1, w2, w3], _ => exact ⟨w0, w1, w2, w3, rfl⟩
  have hw := fun d (hd : d ∈ tables_1) => atoms_spec (ws := Jvm.Cond.code x code maxLocals ret :: tables_1) hat d (List.mem_cons_of_mem _ hd)
  have hfit : Fit s := fun {y c} hc i hi => by
    obtain ⟨ha, rfl⟩ := Array.getElem?_eq_some_iff.mp hc
    have q := List.all_eq_true.mp ((Array.all_eq_true_iff_forall_mem.mp hF) _ (Array.getElem_mem ha)) i (List.mem_range.mpr hi)
    simpa [Array.getElem?_eq_getElem hi] using q
  obtain ⟨i0, ei0⟩ := isL_v a0
  obtain rfl : w0 = (.long i0) := Option.some.inj ei0
  obtain ⟨i1, ei1⟩ := is_v a1
  obtain rfl : w1 = (.int i1) := Option.some.inj ei1
  obtain ⟨i2, ei2⟩ := is_v a2
  obtain rfl : w2 = (.int i2) := Option.some.inj ei2
  obtain ⟨i3, ei3⟩ := is_v r3
  obtain rfl : w3 = (.int i3) := Option.some.inj ei3
  obtain ⟨c0, hn⟩ := and_e hn
  obtain ⟨c1, hn⟩ := and_e hn
  obtain ⟨c2, hn⟩ := and_e hn
  obtain ⟨c3, hn⟩ := and_e hn
  obtain ⟨c4, hn⟩ := and_e hn
  obtain ⟨c5, hn⟩ := and_e hn
  obtain ⟨c6, hn⟩ := and_e hn
  obtain ⟨c7, hn⟩ := and_e hn
  have c8 := hn
  obtain ⟨pa, epa⟩ := exa_v c0
  have E_pa := Exa.start epa c0
  have S_pa : Sta s s.heap "com/example/crivo/crivo/UpdateRule" "PLAIN" "Lcom/example/crivo/crivo/UpdateRule;" (.ref pa) := Sta.start epa (Or.inr ⟨(hw _ (List.mem_of_getElem? (i := 3) rfl)), (hw _ (List.mem_of_getElem? (i := 4) rfl))⟩)
  have F_pa := own_ord epa c1
  obtain ⟨va, eva⟩ := exa_v c3
  have E_va := Exa.start eva c3
  have S_va : Sta s s.heap "com/example/crivo/crivo/UpdateRule" "$VALUES" "[Lcom/example/crivo/crivo/UpdateRule;" (.ref va) := Sta.start eva (Or.inr ⟨(hw _ (List.mem_of_getElem? (i := 3) rfl)), (hw _ (List.mem_of_getElem? (i := 74) rfl))⟩)
  obtain ⟨clv, Av⟩ := Arr.start eva c2
  obtain ⟨ca, eca⟩ := exa_v c6
  have E_ca := Exa.start eca c6
  have S_ca : Sta s s.heap "com/example/crivo/crivo/UpdateRule" "CONSERVATIVE" "Lcom/example/crivo/crivo/UpdateRule;" (.ref ca) := Sta.start eca (Or.inr ⟨(hw _ (List.mem_of_getElem? (i := 3) rfl)), (hw _ (List.mem_of_getElem? (i := 82) rfl))⟩)
  have F_ca := own_ord eca c8
  have A_va := own_arrS eva Av c4 epa c5 eca c7
  have hCH : CHv s own_EL s.vm s.heap := fun p hp => by cases hp
  obtain ⟨n, o, h1, h2, h3, _, L, rfl, ⟨rfl, N⟩, -, hq⟩ := rm0 l s _ hw tables_1 i0 i1 i2 i3 va clv.cls pa ca s.heap s.heap.size (Nat.le_refl _) S_va E_va A_va E_pa F_pa E_ca F_ca S_pa S_ca p e ha hc hk s m _ below hf ((Spec.applies_iff_loose hf).mp happ).1 ⟨rfl, State.Warmed39.refl s, rfl, hCH, all0⟩ trivial
  refine ⟨n, _, h1, h2, h3, hpost _ _ _ _ _ _ ⟨Cond.after_iff.mpr rfl, Cond.after_iff.mpr (eq_i res_at (Term.int_eval (1)) rfl), trivial⟩ ⟨hq.1, hq.2.1, hq.2.2.1, (hq.2.2.2.sift fun y hy => Or.inr (N y hy)).mono (by decide) (by decide)⟩⟩
theorem main_1_1 : Claimed_1_1 := comes_1 fun _ _ _ _ _ _ h hF => ⟨h.1, hF⟩
theorem main_1_2 : Claimed_1_2 := comes_1 fun _ _ _ _ _ _ h hF => ⟨h.2.1, hF⟩
end Jvm.Pilot.@@N@@
namespace Jvm.Pilot.@@N@@
open Jvm Jvm.ClassFile Sem Op Lib Jvm.Free Jvm.Stand Jvm.Pilot.@@N@@.Jvm.D
/-! MADE BY PROGRAM (witnessworld.py) out of the Statement's table words and the real class files: 25 classes; the members and pool entries that the words name. The judged class is class 1, her method 1. -/
namespace start1
open Jvm.ClassFile
def u (s : String) : CpInfo := .utf8 (stringToUtf16 s)
/-- a pool by its gaps: so many unusable entries, then the entry; so many at the end -/
def gap : Nat → List CpInfo → List CpInfo
  | 0, r => r
  | n + 1, r => .unusable :: gap n r
def poolList (es : List (Nat × CpInfo)) (last : Nat) : List CpInfo := es.foldr (fun e r => gap e.1 (e.2 :: r)) (gap last [])
def pool (es : List (Nat × CpInfo)) (last : Nat) : Array CpInfo := ⟨poolList es last⟩
def fileOf (pool : Array CpInfo) (this : Nat) (attrs : Array Attribute := #[]) (ms : Array MethodInfo := #[]) (fl : Nat := 33) (sup : Nat := 0) (ifs : Array Nat := #[]) (fds : Array FieldInfo := #[]) : ClassFile where
  minorVersion := 0
  majorVersion := 65
  constantPool := pool
  accessFlags := fl
  thisClass := this
  superClass := sup
  interfaces := ifs
  fields := fds
  methods := ms
  attributes := attrs
def plain (name : String) (sup : Option ClassId) : Class where
  name := name
  kind := .ordinary
  loader := none
  accessFlags := 33
  super := sup
  interfaces := #[]
  cf := none
  fields := #[]
  methods := #[]
  instanceTypes := #[]
  staticTypes := #[]
  resolved := #[]
  callSites := []
  init := .initialized
  statics := none
  mirror := none

def pool0 : Array CpInfo := pool [(5, u "<init>"), (0, u "()V"), (1, .class_ 10), (1, u "java/lang/Object"), (85, u "clone"), (0, u "()Ljava/lang/Object;")] 26

def k0c0 : Code := { maxStack := 0, maxLocals := 1, code := object_method_1_code, exceptionTable := #[], attributes := #[] }
def k0m0 : Method := { name := "<init>", desc := "()V", sig := { parameters := [], returnType := none }, accessFlags := 1, code := some k0c0 }
def k0m1 : Method := { name := "clone", desc := "()Ljava/lang/Object;", sig := { parameters := [], returnType := some (.object "java/lang/Object") }, accessFlags := 260, code := none }
/-- java/lang/Object -/
def k0 : Class := { plain "java/lang/Object" none with
  accessFlags := 33
  interfaces := #[]
  cf := some (fileOf pool0 8 #[] #[{ accessFlags := 1, nameIndex := 5, descriptorIndex := 6, attributes := #[] }, { accessFlags := 260, nameIndex := 96, descriptorIndex := 97, attributes := #[] }] 33 0 #[] #[])
  fields := #[]
  methods := #[k0m0, k0m1]
  instanceTypes := #[]
  staticTypes := #[]
  resolved := Array.replicate 124 none
  statics := none }

def pool1 : Array CpInfo := pool [(2, .class_ 4), (1, u "java/lang/Object"), (0, u "<init>"), (0, u "()V"), (2, .long 9223372036854775807), (1, .long 17179869184), (1, .fieldref 14 15), (0, .class_ 16), (0, .nameAndType 17 18), (0, u "com/example/crivo/crivo/UpdateRule"), (0, u "CONSERVATIVE"), (0, u "Lcom/example/crivo/crivo/UpdateRule;"), (0, .fieldref 14 20), (0, .nameAndType 21 18), (0, u "PLAIN"), (0, .long 2), (1, .class_ 25), (0, u "com/example/crivo/crivo/CountingParameters"), (0, .methodref 24 27), (0, .nameAndType 5 28), (0, u "(JIILcom/example/crivo/crivo/UpdateRule;)V"), (0, .methodref 24 30), (0, .nameAndType 31 32), (0, u "toFile"), (0, u "()[J"), (0, .methodref 24 34), (0, .nameAndType 35 36), (0, u "fromFile"), (0, u "([J)Lcom/example/crivo/crivo/CountingParameters;"), (0, .methodref 24 38), (0, .nameAndType 39 40), (0, u "counters"), (0, u "()J"), (0, .methodref 24 42), (0, .nameAndType 43 44), (0, u "hashes"), (0, u "()I"), (0, .methodref 24 46), (0, .nameAndType 47 44), (0, u "counterBits"), (0, .methodref 24 49), (0, .nameAndType 50 51), (0, u "update"), (0, u "()Lcom/example/crivo/crivo/UpdateRule;"), (0, .class_ 53), (0, u "com/example/crivo/crivo/CountingParametersToFilePinLaw"), (2, u "law"), (0, u "(JIII)Z")] 5

def k1m0 : Method := { name := "<init>", desc := "()V", sig := { parameters := [], returnType := none }, accessFlags := 1, code := none }
def k1c1 : Code := { maxStack := 8, maxLocals := 19, code := code, exceptionTable := #[], attributes := #[] }
def k1m1 : Method := { name := "law", desc := "(JIII)Z", sig := { parameters := [.long, .int, .int, .int], returnType := some .boolean }, accessFlags := 9, code := some k1c1 }
/-- com/example/crivo/crivo/CountingParametersToFilePinLaw -/
def k1 : Class := { plain "com/example/crivo/crivo/CountingParametersToFilePinLaw" (some 0) with
  accessFlags := 49
  interfaces := #[]
  cf := some (fileOf pool1 52 #[] #[{ accessFlags := 1, nameIndex := 5, descriptorIndex := 6, attributes := #[] }, { accessFlags := 9, nameIndex := 56, descriptorIndex := 57, attributes := #[] }] 49 2 #[] #[])
  fields := #[]
  methods := #[k1m0, k1m1]
  instanceTypes := #[]
  staticTypes := #[]
  resolved := Array.replicate 63 none
  statics := none }

def pool2 : Array CpInfo := pool [(1, .class_ 2), (0, u "java/lang/constant/Constable"), (0, .class_ 4), (0, u "java/lang/Object")] 6

/-- java/lang/constant/Constable -/
def k2 : Class := { plain "java/lang/constant/Constable" (some 0) with
  accessFlags := 1537
  interfaces := #[]
  cf := some (fileOf pool2 1 #[] #[] 1537 3 #[] #[])
  fields := #[]
  methods := #[]
  instanceTypes := #[]
  staticTypes := #[]
  resolved := Array.replicate 11 none
  statics := none }

def pool3 : Array CpInfo := pool [(1, .class_ 2), (0, u "java/lang/Comparable"), (0, .class_ 4), (0, u "java/lang/Object")] 7

/-- java/lang/Comparable -/
def k3 : Class := { plain "java/lang/Comparable" (some 0) with
  accessFlags := 1537
  interfaces := #[]
  cf := some (fileOf pool3 1 #[] #[] 1537 3 #[] #[])
  fields := #[]
  methods := #[]
  instanceTypes := #[]
  staticTypes := #[]
  resolved := Array.replicate 12 none
  statics := none }

def pool4 : Array CpInfo := pool [(1, .class_ 2), (0, u "java/io/Serializable"), (0, .class_ 4), (0, u "java/lang/Object")] 2

/-- java/io/Serializable -/
def k4 : Class := { plain "java/io/Serializable" (some 0) with
  accessFlags := 1537
  interfaces := #[]
  cf := some (fileOf pool4 1 #[] #[] 1537 3 #[] #[])
  fields := #[]
  methods := #[]
  instanceTypes := #[]
  staticTypes := #[]
  resolved := Array.replicate 7 none
  statics := none }

def pool5 : Array CpInfo := pool [(2, .class_ 4), (1, u "java/lang/Enum"), (0, u "name"), (0, u "Ljava/lang/String;"), (2, u "ordinal"), (0, u "I"), (1, .class_ 14), (1, u "java/lang/Object"), (4, u "hash"), (86, .class_ 108), (1, u "java/lang/Enum$EnumDesc"), (2, .class_ 112), (0, u "java/lang/constant/Constable"), (0, .class_ 114), (0, u "java/lang/Comparable"), (0, .class_ 116), (0, u "java/io/Serializable")] 87

/-- java/lang/Enum -/
def k5 : Class := { plain "java/lang/Enum" (some 0) with
  accessFlags := 1057
  interfaces := #[2, 3, 4]
  cf := some (fileOf pool5 2 #[.nestMembers #[106]] #[] 1057 12 #[111, 113, 115] #[{ accessFlags := 18, nameIndex := 5, descriptorIndex := 6, attributes := #[] }, { accessFlags := 18, nameIndex := 9, descriptorIndex := 10, attributes := #[] }, { accessFlags := 2, nameIndex := 19, descriptorIndex := 10, attributes := #[] }])
  fields := #[{ name := "name", type := (.object "java/lang/String"), accessFlags := 18, slot := 0, constantValue := 0 }, { name := "ordinal", type := .int, accessFlags := 18, slot := 1, constantValue := 0 }, { name := "hash", type := .int, accessFlags := 2, slot := 2, constantValue := 0 }]
  methods := #[]
  instanceTypes := #[(.object "java/lang/String"), .int, .int]
  staticTypes := #[]
  resolved := Array.replicate 204 none
  statics := none }

def pool6 : Array CpInfo := pool [(1, .class_ 2), (0, u "com/example/crivo/crivo/UpdateRule"), (2, u "PLAIN"), (0, u "Lcom/example/crivo/crivo/UpdateRule;"), (2, u "CONSERVATIVE"), (0, .fieldref 1 11), (0, .nameAndType 12 13), (0, u "$VALUES"), (0, u "[Lcom/example/crivo/crivo/UpdateRule;"), (0, .methodref 15 16), (0, .class_ 13), (0, .nameAndType 17 18), (0, u "clone"), (0, u "()Ljava/lang/Object;"), (1, .class_ 22), (1, u "java/lang/Enum"), (8, u "label"), (0, u "Ljava/lang/String;"), (0, .fieldref 1 34), (0, .nameAndType 35 36), (0, u "code"), (0, u "I"), (0, .methodref 1 38), (0, .nameAndType 39 40), (0, u "values"), (0, u "()[Lcom/example/crivo/crivo/UpdateRule;"), (2, u "test"), (1, .methodref 46 47), (0, .class_ 48), (0, .nameAndType 49 50), (0, u "com/example/crivo/crivo/Lookup"), (0, u "first"), (0, u "([Ljava/lang/Object;Ljava/util/function/Predicate;)Ljava/lang/Object;"), (0, .invokeDynamic 1 52), (0, .nameAndType 43 53), (0, u "(J)Ljava/util/function/Predicate;"), (5, u "(Ljava/lang/Object;)Z"), (18, u "withCode"), (0, u "(J)Lcom/example/crivo/crivo/UpdateRule;"), (0, u "lambda$withCode$1"), (0, u "(JLcom/example/crivo/crivo/UpdateRule;)Z"), (9, .methodType 59), (3, .methodType 96), (0, u "(Lcom/example/crivo/crivo/UpdateRule;)Z"), (0, .methodHandle 6 98), (0, .methodref 1 99), (0, .nameAndType 80 81), (0, .methodHandle 6 101), (0, .methodref 102 103), (0, .class_ 104), (0, .nameAndType 105 106), (0, u "java/lang/invoke/LambdaMetafactory"), (0, u "metafactory"), (0, u "(Ljava/lang/invoke/MethodHandles$Lookup;Ljava/lang/String;Ljava/lang/invoke/MethodType;Ljava/lang/invoke/MethodType;Ljava/lang/invoke/MethodHandle;Ljava/lang/invoke/MethodType;)Ljava/lang/invoke/CallSite;")] 6

def k6c0 : Code := { maxStack := 1, maxLocals := 0, code := prog_52_method_1_code, exceptionTable := #[], attributes := #[] }
def k6m0 : Method := { name := "values", desc := "()[Lcom/example/crivo/crivo/UpdateRule;", sig := { parameters := [], returnType := some (.array (.object "com/example/crivo/crivo/UpdateRule")) }, accessFlags := 9, code := some k6c0 }
def k6c1 : Code := { maxStack := 3, maxLocals := 2, code := prog_52_method_5_code, exceptionTable := #[], attributes := #[] }
def k6m1 : Method := { name := "withCode", desc := "(J)Lcom/example/crivo/crivo/UpdateRule;", sig := { parameters := [.long], returnType := some (.object "com/example/crivo/crivo/UpdateRule") }, accessFlags := 8, code := some k6c1 }
def k6c2 : Code := { maxStack := 4, maxLocals := 3, code := prog_52_method_6_code, exceptionTable := #[], attributes := #[] }
def k6m2 : Method := { name := "lambda$withCode$1", desc := "(JLcom/example/crivo/crivo/UpdateRule;)Z", sig := { parameters := [.long, (.object "com/example/crivo/crivo/UpdateRule")], returnType := some .boolean }, accessFlags := 4106, code := some k6c2 }
/-- com/example/crivo/crivo/UpdateRule -/
def k6 : Class := { plain "com/example/crivo/crivo/UpdateRule" (some 5) with
  accessFlags := 16433
  interfaces := #[]
  cf := some (fileOf pool6 1 #[.bootstrapMethods #[⟨0, #[]⟩, ⟨100, #[91, 97, 95]⟩]] #[{ accessFlags := 9, nameIndex := 39, descriptorIndex := 40, attributes := #[] }, { accessFlags := 8, nameIndex := 78, descriptorIndex := 79, attributes := #[] }, { accessFlags := 4106, nameIndex := 80, descriptorIndex := 81, attributes := #[] }] 16433 20 #[] #[{ accessFlags := 16409, nameIndex := 5, descriptorIndex := 6, attributes := #[] }, { accessFlags := 16409, nameIndex := 9, descriptorIndex := 6, attributes := #[] }, { accessFlags := 16, nameIndex := 31, descriptorIndex := 32, attributes := #[] }, { accessFlags := 16, nameIndex := 35, descriptorIndex := 36, attributes := #[] }, { accessFlags := 4122, nameIndex := 12, descriptorIndex := 13, attributes := #[] }])
  fields := #[{ name := "PLAIN", type := (.object "com/example/crivo/crivo/UpdateRule"), accessFlags := 16409, slot := 0, constantValue := 0 }, { name := "CONSERVATIVE", type := (.object "com/example/crivo/crivo/UpdateRule"), accessFlags := 16409, slot := 1, constantValue := 0 }, { name := "label", type := (.object "java/lang/String"), accessFlags := 16, slot := 3, constantValue := 0 }, { name := "code", type := .int, accessFlags := 16, slot := 4, constantValue := 0 }, { name := "$VALUES", type := (.array (.object "com/example/crivo/crivo/UpdateRule")), accessFlags := 4122, slot := 2, constantValue := 0 }]
  methods := #[k6m0, k6m1, k6m2]
  instanceTypes := #[(.object "java/lang/String"), .int, .int, (.object "java/lang/String"), .int]
  staticTypes := #[(.object "com/example/crivo/crivo/UpdateRule"), (.object "com/example/crivo/crivo/UpdateRule"), (.array (.object "com/example/crivo/crivo/UpdateRule"))]
  resolved := Array.replicate 113 none
  callSites := [(1, 4, .makes 24)]
  statics := some 0 }

def pool7 : Array CpInfo := pool [(1, .methodref 2 3), (0, .class_ 4), (0, .nameAndType 5 6), (0, u "java/lang/Object"), (0, u "<init>"), (0, u "()V"), (0, .class_ 8), (0, u "java/lang/Record")] 13

def k7c0 : Code := { maxStack := 1, maxLocals := 1, code := jdk_30_method_1_code, exceptionTable := #[], attributes := #[] }
def k7m0 : Method := { name := "<init>", desc := "()V", sig := { parameters := [], returnType := none }, accessFlags := 4, code := some k7c0 }
/-- java/lang/Record -/
def k7 : Class := { plain "java/lang/Record" (some 0) with
  accessFlags := 1057
  interfaces := #[]
  cf := some (fileOf pool7 7 #[] #[{ accessFlags := 4, nameIndex := 5, descriptorIndex := 6, attributes := #[] }] 1057 2 #[] #[])
  fields := #[]
  methods := #[k7m0]
  instanceTypes := #[]
  staticTypes := #[]
  resolved := Array.replicate 22 none
  statics := none }

def pool8 : Array CpInfo := pool [(1, .methodref 2 3), (0, .class_ 4), (0, .nameAndType 5 6), (0, u "java/lang/Record"), (0, u "<init>"), (0, u "()V"), (0, .methodref 8 9), (0, .class_ 10), (0, .nameAndType 11 12), (0, u "com/example/crivo/crivo/CountingParameters"), (0, u "check"), (0, u "(JJJ)V"), (0, .string 14), (0, u "update"), (0, .methodref 16 17), (0, .class_ 18), (0, .nameAndType 19 20), (0, u "java/util/Objects"), (0, u "requireNonNull"), (0, u "(Ljava/lang/Object;Ljava/lang/String;)Ljava/lang/Object;"), (0, .fieldref 8 22), (0, .nameAndType 23 24), (0, u "counters"), (0, u "J"), (0, .fieldref 8 26), (0, .nameAndType 27 28), (0, u "hashes"), (0, u "I"), (0, .fieldref 8 30), (0, .nameAndType 31 28), (0, u "counterBits"), (0, .fieldref 8 33), (0, .nameAndType 14 34), (0, u "Lcom/example/crivo/crivo/UpdateRule;"), (0, .methodref 36 37), (0, .class_ 38), (0, .nameAndType 39 40), (0, u "com/example/crivo/crivo/UpdateRule"), (0, u "withCode"), (0, u "(J)Lcom/example/crivo/crivo/UpdateRule;"), (9, .methodref 8 51), (0, .nameAndType 5 52), (0, u "(JIILcom/example/crivo/crivo/UpdateRule;)V"), (0, .fieldref 36 54), (0, .nameAndType 55 28), (0, u "code"), (3, .string 23), (9, .string 27), (5, .string 76), (0, u "counter-bits"), (6, .long 32), (1, .methodref 86 87), (0, .class_ 88), (0, .nameAndType 89 90), (0, u "com/example/crivo/crivo/Parameters"), (0, u "checkFields"), (0, u "(Ljava/lang/String;JLjava/lang/String;JJ)V"), (0, .long 64), (1, .methodref 86 94), (0, .nameAndType 95 96), (0, u "checkRange"), (0, u "(Ljava/lang/String;JJJ)V"), (14, u "fromFile"), (0, u "([J)Lcom/example/crivo/crivo/CountingParameters;"), (1, u "toFile"), (0, u "()[J"), (5, u "()J"), (1, u "()I"), (1, u "()Lcom/example/crivo/crivo/UpdateRule;")] 31

def k8c0 : Code := { maxStack := 6, maxLocals := 6, code := prog_14_method_1_code, exceptionTable := #[], attributes := #[] }
def k8m0 : Method := { name := "<init>", desc := "(JIILcom/example/crivo/crivo/UpdateRule;)V", sig := { parameters := [.long, .int, .int, (.object "com/example/crivo/crivo/UpdateRule")], returnType := none }, accessFlags := 0, code := some k8c0 }
def k8c1 : Code := { maxStack := 7, maxLocals := 2, code := prog_14_method_2_code, exceptionTable := #[], attributes := #[] }
def k8m1 : Method := { name := "fromFile", desc := "([J)Lcom/example/crivo/crivo/CountingParameters;", sig := { parameters := [(.array .long)], returnType := some (.object "com/example/crivo/crivo/CountingParameters") }, accessFlags := 8, code := some k8c1 }
def k8c2 : Code := { maxStack := 5, maxLocals := 1, code := prog_14_method_3_code, exceptionTable := #[], attributes := #[] }
def k8m2 : Method := { name := "toFile", desc := "()[J", sig := { parameters := [], returnType := some (.array .long) }, accessFlags := 0, code := some k8c2 }
def k8c3 : Code := { maxStack := 8, maxLocals := 6, code := prog_14_method_6_code, exceptionTable := #[], attributes := #[] }
def k8m3 : Method := { name := "check", desc := "(JJJ)V", sig := { parameters := [.long, .long, .long], returnType := none }, accessFlags := 10, code := some k8c3 }
def k8c4 : Code := { maxStack := 2, maxLocals := 1, code := prog_14_method_10_code, exceptionTable := #[], attributes := #[] }
def k8m4 : Method := { name := "counters", desc := "()J", sig := { parameters := [], returnType := some .long }, accessFlags := 1, code := some k8c4 }
def k8c5 : Code := { maxStack := 1, maxLocals := 1, code := prog_14_method_11_code, exceptionTable := #[], attributes := #[] }
def k8m5 : Method := { name := "hashes", desc := "()I", sig := { parameters := [], returnType := some .int }, accessFlags := 1, code := some k8c5 }
def k8c6 : Code := { maxStack := 1, maxLocals := 1, code := prog_14_method_12_code, exceptionTable := #[], attributes := #[] }
def k8m6 : Method := { name := "counterBits", desc := "()I", sig := { parameters := [], returnType := some .int }, accessFlags := 1, code := some k8c6 }
def k8c7 : Code := { maxStack := 1, maxLocals := 1, code := prog_14_method_13_code, exceptionTable := #[], attributes := #[] }
def k8m7 : Method := { name := "update", desc := "()Lcom/example/crivo/crivo/UpdateRule;", sig := { parameters := [], returnType := some (.object "com/example/crivo/crivo/UpdateRule") }, accessFlags := 1, code := some k8c7 }
/-- com/example/crivo/crivo/CountingParameters -/
def k8 : Class := { plain "com/example/crivo/crivo/CountingParameters" (some 7) with
  accessFlags := 48
  interfaces := #[]
  cf := some (fileOf pool8 8 #[] #[{ accessFlags := 0, nameIndex := 5, descriptorIndex := 52, attributes := #[] }, { accessFlags := 8, nameIndex := 111, descriptorIndex := 112, attributes := #[] }, { accessFlags := 0, nameIndex := 114, descriptorIndex := 115, attributes := #[] }, { accessFlags := 10, nameIndex := 11, descriptorIndex := 12, attributes := #[] }, { accessFlags := 1, nameIndex := 23, descriptorIndex := 121, attributes := #[] }, { accessFlags := 1, nameIndex := 27, descriptorIndex := 123, attributes := #[] }, { accessFlags := 1, nameIndex := 31, descriptorIndex := 123, attributes := #[] }, { accessFlags := 1, nameIndex := 14, descriptorIndex := 125, attributes := #[] }] 48 2 #[] #[{ accessFlags := 18, nameIndex := 23, descriptorIndex := 24, attributes := #[] }, { accessFlags := 18, nameIndex := 27, descriptorIndex := 28, attributes := #[] }, { accessFlags := 18, nameIndex := 31, descriptorIndex := 28, attributes := #[] }, { accessFlags := 18, nameIndex := 14, descriptorIndex := 34, attributes := #[] }])
  fields := #[{ name := "counters", type := .long, accessFlags := 18, slot := 0, constantValue := 0 }, { name := "hashes", type := .int, accessFlags := 18, slot := 1, constantValue := 0 }, { name := "counterBits", type := .int, accessFlags := 18, slot := 2, constantValue := 0 }, { name := "update", type := (.object "com/example/crivo/crivo/UpdateRule"), accessFlags := 18, slot := 3, constantValue := 0 }]
  methods := #[k8m0, k8m1, k8m2, k8m3, k8m4, k8m5, k8m6, k8m7]
  instanceTypes := #[.long, .int, .int, (.object "com/example/crivo/crivo/UpdateRule")]
  staticTypes := #[]
  resolved := Array.replicate 157 none
  statics := none }

def pool9 : Array CpInfo := pool [(2, .class_ 4), (1, u "java/lang/CharSequence"), (42, .class_ 48), (0, u "java/lang/CharSequence$1CodePointIterator"), (10, .class_ 60), (0, u "java/lang/CharSequence$1CharIterator"), (5, .class_ 67), (0, u "java/lang/Object")] 63

/-- java/lang/CharSequence -/
def k9 : Class := { plain "java/lang/CharSequence" (some 0) with
  accessFlags := 1537
  interfaces := #[]
  cf := some (fileOf pool9 2 #[.nestMembers #[47, 59]] #[] 1537 66 #[] #[])
  fields := #[]
  methods := #[]
  instanceTypes := #[]
  staticTypes := #[]
  resolved := Array.replicate 131 none
  statics := none }

def pool10 : Array CpInfo := pool [(1, .class_ 2), (0, u "java/lang/constant/ConstantDesc"), (0, .class_ 4), (0, u "java/lang/Object")] 32

/-- java/lang/constant/ConstantDesc -/
def k10 : Class := { plain "java/lang/constant/ConstantDesc" (some 0) with
  accessFlags := 1537
  interfaces := #[]
  cf := some (fileOf pool10 1 #[] #[] 1537 3 #[] #[])
  fields := #[]
  methods := #[]
  instanceTypes := #[]
  staticTypes := #[]
  resolved := Array.replicate 37 none
  statics := none }

def pool11 : Array CpInfo := pool [(2, .class_ 4), (1, u "java/lang/Object"), (0, u "<init>"), (0, u "()V"), (3, .class_ 12), (1, u "java/lang/String"), (0, u "value"), (0, u "[B"), (2, u "coder"), (0, u "B"), (2, u "hash"), (0, u "I"), (2, u "hashIsZero"), (0, u "Z"), (13, u "COMPACT_STRINGS"), (534, .class_ 576), (0, u "java/lang/CharSequence"), (22, u "CASE_INSENSITIVE_ORDER"), (0, u "Ljava/util/Comparator;"), (500, u "serialPersistentFields"), (0, u "[Ljava/io/ObjectStreamField;"), (0, .class_ 1104), (0, u "java/lang/String$CaseInsensitiveComparator"), (1, .class_ 1107), (0, u "java/io/Serializable"), (0, .class_ 1109), (0, u "java/lang/Comparable"), (0, .class_ 1111), (0, u "java/lang/constant/Constable"), (0, .class_ 1113), (0, u "java/lang/constant/ConstantDesc"), (2, u "serialVersionUID"), (0, u "J"), (3, u "REPL"), (0, u "C"), (2, u "LATIN1"), (1, u "UTF16")] 323

def k11m0 : Method := { name := "<init>", desc := "()V", sig := { parameters := [], returnType := none }, accessFlags := 1, code := none }
/-- java/lang/String -/
def k11 : Class := { plain "java/lang/String" (some 0) with
  accessFlags := 49
  interfaces := #[4, 3, 9, 2, 10]
  cf := some (fileOf pool11 10 #[.nestMembers #[1103]] #[{ accessFlags := 1, nameIndex := 5, descriptorIndex := 6, attributes := #[] }] 49 2 #[1106, 1108, 575, 1110, 1112] #[{ accessFlags := 18, nameIndex := 13, descriptorIndex := 14, attributes := #[] }, { accessFlags := 18, nameIndex := 17, descriptorIndex := 18, attributes := #[] }, { accessFlags := 2, nameIndex := 21, descriptorIndex := 22, attributes := #[] }, { accessFlags := 2, nameIndex := 25, descriptorIndex := 26, attributes := #[] }, { accessFlags := 26, nameIndex := 1116, descriptorIndex := 1117, attributes := #[] }, { accessFlags := 24, nameIndex := 40, descriptorIndex := 26, attributes := #[] }, { accessFlags := 26, nameIndex := 1101, descriptorIndex := 1102, attributes := #[] }, { accessFlags := 26, nameIndex := 1121, descriptorIndex := 1122, attributes := #[] }, { accessFlags := 25, nameIndex := 599, descriptorIndex := 600, attributes := #[] }, { accessFlags := 24, nameIndex := 1125, descriptorIndex := 18, attributes := #[] }, { accessFlags := 24, nameIndex := 1127, descriptorIndex := 18, attributes := #[] }])
  fields := #[{ name := "value", type := (.array .byte), accessFlags := 18, slot := 0, constantValue := 0 }, { name := "coder", type := .byte, accessFlags := 18, slot := 1, constantValue := 0 }, { name := "hash", type := .int, accessFlags := 2, slot := 2, constantValue := 0 }, { name := "hashIsZero", type := .boolean, accessFlags := 2, slot := 3, constantValue := 0 }, { name := "serialVersionUID", type := .long, accessFlags := 26, slot := 0, constantValue := 0 }, { name := "COMPACT_STRINGS", type := .boolean, accessFlags := 24, slot := 1, constantValue := 0 }, { name := "serialPersistentFields", type := (.array (.object "java/io/ObjectStreamField")), accessFlags := 26, slot := 2, constantValue := 0 }, { name := "REPL", type := .char, accessFlags := 26, slot := 3, constantValue := 0 }, { name := "CASE_INSENSITIVE_ORDER", type := (.object "java/util/Comparator"), accessFlags := 25, slot := 4, constantValue := 0 }, { name := "LATIN1", type := .byte, accessFlags := 24, slot := 5, constantValue := 0 }, { name := "UTF16", type := .byte, accessFlags := 24, slot := 6, constantValue := 0 }]
  methods := #[k11m0]
  instanceTypes := #[(.array .byte), .byte, .int, .boolean]
  staticTypes := #[.long, .boolean, (.array (.object "java/io/ObjectStreamField")), .char, (.object "java/util/Comparator"), .byte, .byte]
  resolved := Array.replicate 1451 none
  statics := none }

def pool12 : Array CpInfo := pool [(2, .class_ 4), (1, u "java/lang/Object"), (0, u "<init>"), (0, u "()V"), (83, .methodref 91 92), (0, .class_ 93), (0, .nameAndType 94 95), (0, u "com/example/crivo/crivo/Parameters"), (0, u "checkRange"), (0, u "(Ljava/lang/String;JJJ)V"), (2, .long 17179869184), (13, u "checkFields"), (0, u "(Ljava/lang/String;JLjava/lang/String;JJ)V")] 27

def k12m0 : Method := { name := "<init>", desc := "()V", sig := { parameters := [], returnType := none }, accessFlags := 2, code := none }
def k12c1 : Code := { maxStack := 9, maxLocals := 7, code := prog_37_method_2_code, exceptionTable := #[], attributes := #[] }
def k12m1 : Method := { name := "checkRange", desc := "(Ljava/lang/String;JJJ)V", sig := { parameters := [(.object "java/lang/String"), .long, .long, .long], returnType := none }, accessFlags := 8, code := some k12c1 }
def k12c2 : Code := { maxStack := 9, maxLocals := 8, code := prog_37_method_6_code, exceptionTable := #[], attributes := #[] }
def k12m2 : Method := { name := "checkFields", desc := "(Ljava/lang/String;JLjava/lang/String;JJ)V", sig := { parameters := [(.object "java/lang/String"), .long, (.object "java/lang/String"), .long, .long], returnType := none }, accessFlags := 8, code := some k12c2 }
/-- com/example/crivo/crivo/Parameters -/
def k12 : Class := { plain "com/example/crivo/crivo/Parameters" (some 0) with
  accessFlags := 48
  interfaces := #[]
  cf := some (fileOf pool12 91 #[] #[{ accessFlags := 2, nameIndex := 5, descriptorIndex := 6, attributes := #[] }, { accessFlags := 8, nameIndex := 94, descriptorIndex := 95, attributes := #[] }, { accessFlags := 8, nameIndex := 112, descriptorIndex := 113, attributes := #[] }] 48 2 #[] #[])
  fields := #[]
  methods := #[k12m0, k12m1, k12m2]
  instanceTypes := #[]
  staticTypes := #[]
  resolved := Array.replicate 141 none
  statics := none }

def pool13 : Array CpInfo := pool [(2, .class_ 4), (1, u "java/lang/Object"), (0, u "<init>"), (0, u "()V"), (35, .class_ 44), (1, u "java/util/Objects"), (0, u "requireNonNull"), (48, u "(Ljava/lang/Object;Ljava/lang/String;)Ljava/lang/Object;")] 89

def k13m0 : Method := { name := "<init>", desc := "()V", sig := { parameters := [], returnType := none }, accessFlags := 2, code := none }
def k13c1 : Code := { maxStack := 3, maxLocals := 2, code := jdk_31_method_11_code, exceptionTable := #[], attributes := #[] }
def k13m1 : Method := { name := "requireNonNull", desc := "(Ljava/lang/Object;Ljava/lang/String;)Ljava/lang/Object;", sig := { parameters := [(.object "java/lang/Object"), (.object "java/lang/String")], returnType := some (.object "java/lang/Object") }, accessFlags := 9, code := some k13c1 }
/-- java/util/Objects -/
def k13 : Class := { plain "java/util/Objects" (some 0) with
  accessFlags := 49
  interfaces := #[]
  cf := some (fileOf pool13 42 #[] #[{ accessFlags := 2, nameIndex := 5, descriptorIndex := 6, attributes := #[] }, { accessFlags := 9, nameIndex := 45, descriptorIndex := 94, attributes := #[] }] 49 2 #[] #[])
  fields := #[]
  methods := #[k13m0, k13m1]
  instanceTypes := #[]
  staticTypes := #[]
  resolved := Array.replicate 184 none
  statics := none }

def pool14 : Array CpInfo := pool [(1, .class_ 2), (0, u "java/lang/Cloneable"), (0, .class_ 4), (0, u "java/lang/Object")] 2

/-- java/lang/Cloneable -/
def k14 : Class := { plain "java/lang/Cloneable" (some 0) with
  accessFlags := 1537
  interfaces := #[]
  cf := some (fileOf pool14 1 #[] #[] 1537 3 #[] #[])
  fields := #[]
  methods := #[]
  instanceTypes := #[]
  staticTypes := #[]
  resolved := Array.replicate 7 none
  statics := none }

def pool15 : Array CpInfo := pool [(9, u "test"), (12, .class_ 24), (1, u "java/util/function/Predicate"), (2, .class_ 29), (1, u "java/lang/Object"), (1, u "(Ljava/lang/Object;)Z")] 69

def k15m0 : Method := { name := "test", desc := "(Ljava/lang/Object;)Z", sig := { parameters := [(.object "java/lang/Object")], returnType := some .boolean }, accessFlags := 1025, code := none }
/-- java/util/function/Predicate -/
def k15 : Class := { plain "java/util/function/Predicate" (some 0) with
  accessFlags := 1537
  interfaces := #[]
  cf := some (fileOf pool15 22 #[] #[{ accessFlags := 1025, nameIndex := 9, descriptorIndex := 31, attributes := #[] }] 1537 27 #[] #[])
  fields := #[]
  methods := #[k15m0]
  instanceTypes := #[]
  staticTypes := #[]
  resolved := Array.replicate 101 none
  statics := none }

def pool16 : Array CpInfo := pool [(2, .class_ 4), (1, u "java/lang/Object"), (0, u "<init>"), (0, u "()V"), (0, .interfaceMethodref 8 9), (0, .class_ 10), (0, .nameAndType 11 12), (0, u "java/util/function/Predicate"), (0, u "test"), (0, u "(Ljava/lang/Object;)Z"), (0, .class_ 14), (0, u "com/example/crivo/crivo/Lookup"), (2, u "first"), (0, u "([Ljava/lang/Object;Ljava/util/function/Predicate;)Ljava/lang/Object;")] 7

def k16m0 : Method := { name := "<init>", desc := "()V", sig := { parameters := [], returnType := none }, accessFlags := 2, code := none }
def k16c1 : Code := { maxStack := 2, maxLocals := 6, code := prog_36_method_2_code, exceptionTable := #[], attributes := #[] }
def k16m1 : Method := { name := "first", desc := "([Ljava/lang/Object;Ljava/util/function/Predicate;)Ljava/lang/Object;", sig := { parameters := [(.array (.object "java/lang/Object")), (.object "java/util/function/Predicate")], returnType := some (.object "java/lang/Object") }, accessFlags := 8, code := some k16c1 }
/-- com/example/crivo/crivo/Lookup -/
def k16 : Class := { plain "com/example/crivo/crivo/Lookup" (some 0) with
  accessFlags := 48
  interfaces := #[]
  cf := some (fileOf pool16 13 #[] #[{ accessFlags := 2, nameIndex := 5, descriptorIndex := 6, attributes := #[] }, { accessFlags := 8, nameIndex := 17, descriptorIndex := 18, attributes := #[] }] 48 2 #[] #[])
  fields := #[]
  methods := #[k16m0, k16m1]
  instanceTypes := #[]
  staticTypes := #[]
  resolved := Array.replicate 26 none
  statics := none }

/-- the primitive byte -/
def k17 : Class := { plain "byte" none with kind := .primitive 'B', accessFlags := 0x411 }
/-- [B -/
def k18 : Class := { plain "[B" (some 0) with kind := .array 17 .byte, interfaces := #[14, 4], accessFlags := 1041 }

/-- the primitive int -/
def k19 : Class := { plain "int" none with kind := .primitive 'I', accessFlags := 0x411 }
/-- [I -/
def k20 : Class := { plain "[I" (some 0) with kind := .array 19 .int, interfaces := #[14, 4], accessFlags := 1041 }

/-- the primitive long -/
def k21 : Class := { plain "long" none with kind := .primitive 'J', accessFlags := 0x411 }
/-- [J -/
def k22 : Class := { plain "[J" (some 0) with kind := .array 21 .long, interfaces := #[14, 4], accessFlags := 1041 }

/-- [Lcom/example/crivo/crivo/UpdateRule; -/
def k23 : Class := { plain "[Lcom/example/crivo/crivo/UpdateRule;" (some 0) with kind := .array 6 (.object "com/example/crivo/crivo/UpdateRule"), interfaces := #[14, 4], accessFlags := 1041 }

def classes0 : Array Class := #[k0, k1, k2, k3, k4, k5, k6, k7, k8, k9, k10, k11, k12, k13, k14, k15, k16, k17, k18, k19, k20, k21, k22, k23]
/-- the class that the rule has made for the site at 4 of com/example/crivo/crivo/UpdateRule.withCode -/
def k24 : Class := Jvm.LamKit.madeRec { classes := classes0 } "com/example/crivo/crivo/UpdateRule" (Jvm.Lambda.Shape.mk "java/util/function/Predicate" "test" (Jvm.ClassFile.MethodDescriptor.mk ([(Jvm.ClassFile.FieldType.object "java/lang/Object")] : List Jvm.ClassFile.FieldType) (Option.some Jvm.ClassFile.FieldType.boolean)) ([Jvm.ClassFile.FieldType.long] : List Jvm.ClassFile.FieldType) (6 : Nat) "com/example/crivo/crivo/UpdateRule" "lambda$withCode$1" (Jvm.ClassFile.MethodDescriptor.mk ([Jvm.ClassFile.FieldType.long, (Jvm.ClassFile.FieldType.object "com/example/crivo/crivo/UpdateRule")] : List Jvm.ClassFile.FieldType) (Option.some Jvm.ClassFile.FieldType.boolean)) false (Jvm.ClassFile.MethodDescriptor.mk ([(Jvm.ClassFile.FieldType.object "com/example/crivo/crivo/UpdateRule")] : List Jvm.ClassFile.FieldType) (Option.some Jvm.ClassFile.FieldType.boolean))) 24

def heap : Heap := #[{ cls := 6, slots := #[.ref 2, .ref 3, .ref 1], vm := .statics 6 },
  { cls := 23, slots := #[.ref 2, .ref 3], vm := .none },
  { cls := 6, slots := #[.null, .int 0, .int 0, .null, .int 1], vm := .none },
  { cls := 6, slots := #[.null, .int 1, .int 0, .null, .int 2], vm := .none }]
def classes : Array Class := #[k0, k1, k2, k3, k4, k5, k6, k7, k8, k9, k10, k11, k12, k13, k14, k15, k16, k17, k18, k19, k20, k21, k22, k23, k24]
def interned : List (Array UInt16 × Addr) := []
def slotsUsed : Nat := 15
def theMethod : MethodId := ⟨1, 1⟩
def args0 : Array Value := #[.long 5, .int 3, .int 4, .int 1]
def aboutOver (below : List Frame) : State where
  vm := { classes := classes, interned := interned.toArray }
  heap := heap
  slotsUsed := slotsUsed
  threads := #[{ frames := .invoking theMethod args0 :: below }]
def below0 : List Frame := [.native { method := ⟨0, 0⟩, args := #[] }]
def about1 : State := aboutOver below0
def p0 : Program := .bare "" "" ""
def e0 : Env := launch0.env 0 0 0
theorem w_frames : about1.frames = Frame.invoking theMethod args0 :: below0 := rfl
set_option maxRecDepth 65536 in
theorem w_args : argsFit about1.vm theMethod args0 = true := by decide +kernel
set_option maxRecDepth 65536 in
theorem w_heap : heapFits about1 = true := by decide +kernel
set_option maxRecDepth 65536 in
theorem w_runnable : about1.curStatus? = some .runnable := by decide +kernel
set_option maxRecDepth 65536 in
theorem w_alone : about1.alone = true := by decide +kernel
set_option maxRecDepth 65536 in
theorem w_named : about1.methodNamed? x = some theMethod := by decide +kernel
set_option maxRecDepth 65536 in
theorem w_hears : about1.hears theMethod below0 = true := by decide +kernel
set_option maxRecDepth 65536 in
theorem w_ripe : about1.ripe theMethod args0 below0 = true := by decide +kernel
theorem w_running : about1.status = .running := rfl
set_option maxRecDepth 65536 in
theorem w_room : about1.hasRoom e0.platform room_1 = true :=
  launch0.hasRoom_least _ room_1 (by decide +kernel) (by decide +kernel) (by decide +kernel) (by decide +kernel) (by decide +kernel) (by decide +kernel)
theorem allAtoms_all (ts : List Jvm.Cond) (a : Array Jvm.Value) (st : Jvm.State) : (allAtoms ts).before a st = ts.all (fun c => c.before a st) := by
  induction ts with
  | nil => rfl
  | cons c t ih =>
    show (Jvm.Cond.and c (allAtoms t)).before a st = _
    rw [Jvm.Cond.before_and, ih, List.all_cons]
def words1 : List Jvm.Cond := Jvm.Cond.code x code maxLocals ret :: tables_1
/-- a 'code' word, met by the world's own term for the bytes: nothing is compared byte by byte -/
theorem code_word {y : MethodName} {bytes : ByteArray} {mx : Nat} {rt : Option FieldType} {a : Array Value} {s : State} {m : MethodId} {meth : Method} {c : Code} (h1 : s.methodNamed? y = some m) (h2 : s.vm.method? m = some meth) (h3 : meth.code = some c) (h4 : c.code = bytes)
    (h5 : (c.maxLocals == mx && c.exceptionTable.isEmpty && decide (c.maxStack ≤ mostOperands) && decide (meth.sig.returnType = rt) && !meth.locks && decide (parseMethodDescriptor y.desc = some meth.sig)) = true) : (Jvm.Cond.code y bytes mx rt).before a s = true := by
  simp only [Bool.and_eq_true, beq_iff_eq, Bool.not_eq_true', decide_eq_true_eq] at h5
  obtain ⟨⟨⟨⟨⟨g1, g2⟩, g3⟩, g4⟩, g5⟩, g6⟩ := h5
  simp [Cond.before, Cond.holds, Cond.value, h1, h2, h3, h4, g1, g2, g3, g4, g5, g6]
def isCode : Jvm.Cond → Bool
  | .code _ _ _ _ => true
  | _ => false
theorem all_split {L : List Jvm.Cond} {P : Jvm.Cond → Bool} (h1 : L.all (fun c => isCode c || P c) = true) (h2 : ∀ c ∈ L.filter isCode, P c = true) : L.all P = true := by
  refine List.all_eq_true.mpr fun c hc => ?_
  have h := List.all_eq_true.mp h1 c hc
  rcases Bool.eq_false_or_eq_true (isCode c) with hi | hi
  · exact h2 c (List.mem_filter.mpr ⟨hc, hi⟩)
  · simpa [hi] using h
set_option maxRecDepth 65536 in
theorem w_c0 : (Jvm.Cond.code x code maxLocals ret).before args0 about1 = true := code_word (m := ⟨1, 1⟩) (meth := k1m1) (c := k1c1) (by decide +kernel) rfl rfl rfl (by decide +kernel)
set_option maxRecDepth 65536 in
theorem w_c1 : (Jvm.Cond.code ({ cls := "com/example/crivo/crivo/CountingParameters", name := "<init>", desc := "(JIILcom/example/crivo/crivo/UpdateRule;)V" } : Jvm.MethodName) prog_14_method_1_code (6 : Nat) (Option.none : Option Jvm.ClassFile.FieldType)).before args0 about1 = true := code_word (m := ⟨8, 0⟩) (meth := k8m0) (c := k8c0) (by decide +kernel) rfl rfl rfl (by decide +kernel)
set_option maxRecDepth 65536 in
theorem w_c2 : (Jvm.Cond.code ({ cls := "java/lang/Record", name := "<init>", desc := "()V" } : Jvm.MethodName) jdk_30_method_1_code (1 : Nat) (Option.none : Option Jvm.ClassFile.FieldType)).before args0 about1 = true := code_word (m := ⟨7, 0⟩) (meth := k7m0) (c := k7c0) (by decide +kernel) rfl rfl rfl (by decide +kernel)
set_option maxRecDepth 65536 in
theorem w_c3 : (Jvm.Cond.code ({ cls := "java/lang/Object", name := "<init>", desc := "()V" } : Jvm.MethodName) object_method_1_code (1 : Nat) (Option.none : Option Jvm.ClassFile.FieldType)).before args0 about1 = true := code_word (m := ⟨0, 0⟩) (meth := k0m0) (c := k0c0) (by decide +kernel) rfl rfl rfl (by decide +kernel)
set_option maxRecDepth 65536 in
theorem w_c4 : (Jvm.Cond.code ({ cls := "com/example/crivo/crivo/CountingParameters", name := "check", desc := "(JJJ)V" } : Jvm.MethodName) prog_14_method_6_code (6 : Nat) (Option.none : Option Jvm.ClassFile.FieldType)).before args0 about1 = true := code_word (m := ⟨8, 3⟩) (meth := k8m3) (c := k8c3) (by decide +kernel) rfl rfl rfl (by decide +kernel)
set_option maxRecDepth 65536 in
theorem w_c5 : (Jvm.Cond.code ({ cls := "com/example/crivo/crivo/Parameters", name := "checkFields", desc := "(Ljava/lang/String;JLjava/lang/String;JJ)V" } : Jvm.MethodName) prog_37_method_6_code (8 : Nat) (Option.none : Option Jvm.ClassFile.FieldType)).before args0 about1 = true := code_word (m := ⟨12, 2⟩) (meth := k12m2) (c := k12c2) (by decide +kernel) rfl rfl rfl (by decide +kernel)
set_option maxRecDepth 65536 in
theorem w_c6 : (Jvm.Cond.code ({ cls := "com/example/crivo/crivo/Parameters", name := "checkRange", desc := "(Ljava/lang/String;JJJ)V" } : Jvm.MethodName) prog_37_method_2_code (7 : Nat) (Option.none : Option Jvm.ClassFile.FieldType)).before args0 about1 = true := code_word (m := ⟨12, 1⟩) (meth := k12m1) (c := k12c1) (by decide +kernel) rfl rfl rfl (by decide +kernel)
set_option maxRecDepth 65536 in
theorem w_c7 : (Jvm.Cond.code ({ cls := "java/util/Objects", name := "requireNonNull", desc := "(Ljava/lang/Object;Ljava/lang/String;)Ljava/lang/Object;" } : Jvm.MethodName) jdk_31_method_11_code (2 : Nat) (Option.some (Jvm.ClassFile.FieldType.object "java/lang/Object"))).before args0 about1 = true := code_word (m := ⟨13, 1⟩) (meth := k13m1) (c := k13c1) (by decide +kernel) rfl rfl rfl (by decide +kernel)
set_option maxRecDepth 65536 in
theorem w_c8 : (Jvm.Cond.code ({ cls := "com/example/crivo/crivo/CountingParameters", name := "toFile", desc := "()[J" } : Jvm.MethodName) prog_14_method_3_code (1 : Nat) (Option.some (Jvm.ClassFile.FieldType.array Jvm.ClassFile.FieldType.long))).before args0 about1 = true := code_word (m := ⟨8, 2⟩) (meth := k8m2) (c := k8c2) (by decide +kernel) rfl rfl rfl (by decide +kernel)
set_option maxRecDepth 65536 in
theorem w_c9 : (Jvm.Cond.code ({ cls := "com/example/crivo/crivo/CountingParameters", name := "fromFile", desc := "([J)Lcom/example/crivo/crivo/CountingParameters;" } : Jvm.MethodName) prog_14_method_2_code (2 : Nat) (Option.some (Jvm.ClassFile.FieldType.object "com/example/crivo/crivo/CountingParameters"))).before args0 about1 = true := code_word (m := ⟨8, 1⟩) (meth := k8m1) (c := k8c1) (by decide +kernel) rfl rfl rfl (by decide +kernel)
set_option maxRecDepth 65536 in
theorem w_c10 : (Jvm.Cond.code ({ cls := "com/example/crivo/crivo/UpdateRule", name := "withCode", desc := "(J)Lcom/example/crivo/crivo/UpdateRule;" } : Jvm.MethodName) prog_52_method_5_code (2 : Nat) (Option.some (Jvm.ClassFile.FieldType.object "com/example/crivo/crivo/UpdateRule"))).before args0 about1 = true := code_word (m := ⟨6, 1⟩) (meth := k6m1) (c := k6c1) (by decide +kernel) rfl rfl rfl (by decide +kernel)
set_option maxRecDepth 65536 in
theorem w_c11 : (Jvm.Cond.code ({ cls := "com/example/crivo/crivo/UpdateRule", name := "values", desc := "()[Lcom/example/crivo/crivo/UpdateRule;" } : Jvm.MethodName) prog_52_method_1_code (0 : Nat) (Option.some (Jvm.ClassFile.FieldType.array (Jvm.ClassFile.FieldType.object "com/example/crivo/crivo/UpdateRule")))).before args0 about1 = true := code_word (m := ⟨6, 0⟩) (meth := k6m0) (c := k6c0) (by decide +kernel) rfl rfl rfl (by decide +kernel)
set_option maxRecDepth 65536 in
theorem w_c12 : (Jvm.Cond.code ({ cls := "com/example/crivo/crivo/Lookup", name := "first", desc := "([Ljava/lang/Object;Ljava/util/function/Predicate;)Ljava/lang/Object;" } : Jvm.MethodName) prog_36_method_2_code (6 : Nat) (Option.some (Jvm.ClassFile.FieldType.object "java/lang/Object"))).before args0 about1 = true := code_word (m := ⟨16, 1⟩) (meth := k16m1) (c := k16c1) (by decide +kernel) rfl rfl rfl (by decide +kernel)
set_option maxRecDepth 65536 in
theorem w_c13 : (Jvm.Cond.code ({ cls := "com/example/crivo/crivo/UpdateRule", name := "lambda$withCode$1", desc := "(JLcom/example/crivo/crivo/UpdateRule;)Z" } : Jvm.MethodName) prog_52_method_6_code (3 : Nat) (Option.some Jvm.ClassFile.FieldType.boolean)).before args0 about1 = true := code_word (m := ⟨6, 2⟩) (meth := k6m2) (c := k6c2) (by decide +kernel) rfl rfl rfl (by decide +kernel)
set_option maxRecDepth 65536 in
theorem w_c14 : (Jvm.Cond.code ({ cls := "com/example/crivo/crivo/CountingParameters", name := "counters", desc := "()J" } : Jvm.MethodName) prog_14_method_10_code (1 : Nat) (Option.some Jvm.ClassFile.FieldType.long)).before args0 about1 = true := code_word (m := ⟨8, 4⟩) (meth := k8m4) (c := k8c4) (by decide +kernel) rfl rfl rfl (by decide +kernel)
set_option maxRecDepth 65536 in
theorem w_c15 : (Jvm.Cond.code ({ cls := "com/example/crivo/crivo/CountingParameters", name := "hashes", desc := "()I" } : Jvm.MethodName) prog_14_method_11_code (1 : Nat) (Option.some Jvm.ClassFile.FieldType.int)).before args0 about1 = true := code_word (m := ⟨8, 5⟩) (meth := k8m5) (c := k8c5) (by decide +kernel) rfl rfl rfl (by decide +kernel)
set_option maxRecDepth 65536 in
theorem w_c16 : (Jvm.Cond.code ({ cls := "com/example/crivo/crivo/CountingParameters", name := "counterBits", desc := "()I" } : Jvm.MethodName) prog_14_method_12_code (1 : Nat) (Option.some Jvm.ClassFile.FieldType.int)).before args0 about1 = true := code_word (m := ⟨8, 6⟩) (meth := k8m6) (c := k8c6) (by decide +kernel) rfl rfl rfl (by decide +kernel)
set_option maxRecDepth 65536 in
theorem w_c17 : (Jvm.Cond.code ({ cls := "com/example/crivo/crivo/CountingParameters", name := "update", desc := "()Lcom/example/crivo/crivo/UpdateRule;" } : Jvm.MethodName) prog_14_method_13_code (1 : Nat) (Option.some (Jvm.ClassFile.FieldType.object "com/example/crivo/crivo/UpdateRule"))).before args0 about1 = true := code_word (m := ⟨8, 7⟩) (meth := k8m7) (c := k8c7) (by decide +kernel) rfl rfl rfl (by decide +kernel)
def codes1 : List Jvm.Cond := [Jvm.Cond.code x code maxLocals ret, Jvm.Cond.code ({ cls := "com/example/crivo/crivo/CountingParameters", name := "<init>", desc := "(JIILcom/example/crivo/crivo/UpdateRule;)V" } : Jvm.MethodName) prog_14_method_1_code (6 : Nat) (Option.none : Option Jvm.ClassFile.FieldType), Jvm.Cond.code ({ cls := "java/lang/Record", name := "<init>", desc := "()V" } : Jvm.MethodName) jdk_30_method_1_code (1 : Nat) (Option.none : Option Jvm.ClassFile.FieldType), Jvm.Cond.code ({ cls := "java/lang/Object", name := "<init>", desc := "()V" } : Jvm.MethodName) object_method_1_code (1 : Nat) (Option.none : Option Jvm.ClassFile.FieldType), Jvm.Cond.code ({ cls := "com/example/crivo/crivo/CountingParameters", name := "check", desc := "(JJJ)V" } : Jvm.MethodName) prog_14_method_6_code (6 : Nat) (Option.none : Option Jvm.ClassFile.FieldType), Jvm.Cond.code ({ cls := "com/example/crivo/crivo/Parameters", name := "checkFields", desc := "(Ljava/lang/String;JLjava/lang/String;JJ)V" } : Jvm.MethodName) prog_37_method_6_code (8 : Nat) (Option.none : Option Jvm.ClassFile.FieldType), Jvm.Cond.code ({ cls := "com/example/crivo/crivo/Parameters", name := "checkRange", desc := "(Ljava/lang/String;JJJ)V" } : Jvm.MethodName) prog_37_method_2_code (7 : Nat) (Option.none : Option Jvm.ClassFile.FieldType), Jvm.Cond.code ({ cls := "java/util/Objects", name := "requireNonNull", desc := "(Ljava/lang/Object;Ljava/lang/String;)Ljava/lang/Object;" } : Jvm.MethodName) jdk_31_method_11_code (2 : Nat) (Option.some (Jvm.ClassFile.FieldType.object "java/lang/Object")), Jvm.Cond.code ({ cls := "com/example/crivo/crivo/CountingParameters", name := "toFile", desc := "()[J" } : Jvm.MethodName) prog_14_method_3_code (1 : Nat) (Option.some (Jvm.ClassFile.FieldType.array Jvm.ClassFile.FieldType.long)), Jvm.Cond.code ({ cls := "com/example/crivo/crivo/CountingParameters", name := "fromFile", desc := "([J)Lcom/example/crivo/crivo/CountingParameters;" } : Jvm.MethodName) prog_14_method_2_code (2 : Nat) (Option.some (Jvm.ClassFile.FieldType.object "com/example/crivo/crivo/CountingParameters")), Jvm.Cond.code ({ cls := "com/example/crivo/crivo/UpdateRule", name := "withCode", desc := "(J)Lcom/example/crivo/crivo/UpdateRule;" } : Jvm.MethodName) prog_52_method_5_code (2 : Nat) (Option.some (Jvm.ClassFile.FieldType.object "com/example/crivo/crivo/UpdateRule")), Jvm.Cond.code ({ cls := "com/example/crivo/crivo/UpdateRule", name := "values", desc := "()[Lcom/example/crivo/crivo/UpdateRule;" } : Jvm.MethodName) prog_52_method_1_code (0 : Nat) (Option.some (Jvm.ClassFile.FieldType.array (Jvm.ClassFile.FieldType.object "com/example/crivo/crivo/UpdateRule"))), Jvm.Cond.code ({ cls := "com/example/crivo/crivo/Lookup", name := "first", desc := "([Ljava/lang/Object;Ljava/util/function/Predicate;)Ljava/lang/Object;" } : Jvm.MethodName) prog_36_method_2_code (6 : Nat) (Option.some (Jvm.ClassFile.FieldType.object "java/lang/Object")), Jvm.Cond.code ({ cls := "com/example/crivo/crivo/UpdateRule", name := "lambda$withCode$1", desc := "(JLcom/example/crivo/crivo/UpdateRule;)Z" } : Jvm.MethodName) prog_52_method_6_code (3 : Nat) (Option.some Jvm.ClassFile.FieldType.boolean), Jvm.Cond.code ({ cls := "com/example/crivo/crivo/CountingParameters", name := "counters", desc := "()J" } : Jvm.MethodName) prog_14_method_10_code (1 : Nat) (Option.some Jvm.ClassFile.FieldType.long), Jvm.Cond.code ({ cls := "com/example/crivo/crivo/CountingParameters", name := "hashes", desc := "()I" } : Jvm.MethodName) prog_14_method_11_code (1 : Nat) (Option.some Jvm.ClassFile.FieldType.int), Jvm.Cond.code ({ cls := "com/example/crivo/crivo/CountingParameters", name := "counterBits", desc := "()I" } : Jvm.MethodName) prog_14_method_12_code (1 : Nat) (Option.some Jvm.ClassFile.FieldType.int), Jvm.Cond.code ({ cls := "com/example/crivo/crivo/CountingParameters", name := "update", desc := "()Lcom/example/crivo/crivo/UpdateRule;" } : Jvm.MethodName) prog_14_method_13_code (1 : Nat) (Option.some (Jvm.ClassFile.FieldType.object "com/example/crivo/crivo/UpdateRule"))]
set_option maxRecDepth 65536 in
theorem codes_eq : words1.filter isCode = codes1 := rfl
theorem w_codes : ∀ c ∈ words1.filter isCode, c.before args0 about1 = true := by
  rw [codes_eq]
  intro c hc
  simp only [codes1, List.mem_cons, List.not_mem_nil, or_false] at hc
  rcases hc with rfl | rfl | rfl | rfl | rfl | rfl | rfl | rfl | rfl | rfl | rfl | rfl | rfl | rfl | rfl | rfl | rfl | rfl
  · exact w_c0
  · exact w_c1
  · exact w_c2
  · exact w_c3
  · exact w_c4
  · exact w_c5
  · exact w_c6
  · exact w_c7
  · exact w_c8
  · exact w_c9
  · exact w_c10
  · exact w_c11
  · exact w_c12
  · exact w_c13
  · exact w_c14
  · exact w_c15
  · exact w_c16
  · exact w_c17
set_option maxRecDepth 65536 in
theorem w_t1 : (words1.take 24).all (fun c => isCode c || c.before args0 about1) = true := by decide +kernel
set_option maxRecDepth 65536 in
theorem w_t2 : ((words1.drop 24).take 24).all (fun c => isCode c || c.before args0 about1) = true := by decide +kernel
set_option maxRecDepth 65536 in
theorem w_t3 : (((words1.drop 24).drop 24).take 24).all (fun c => isCode c || c.before args0 about1) = true := by decide +kernel
set_option maxRecDepth 65536 in
theorem w_t4 : ((((words1.drop 24).drop 24).drop 24).take 24).all (fun c => isCode c || c.before args0 about1) = true := by decide +kernel
set_option maxRecDepth 65536 in
theorem w_t5 : (((((words1.drop 24).drop 24).drop 24).drop 24).take 24).all (fun c => isCode c || c.before args0 about1) = true := by decide +kernel
set_option maxRecDepth 65536 in
theorem w_t6 : (((((words1.drop 24).drop 24).drop 24).drop 24).drop 24).all (fun c => isCode c || c.before args0 about1) = true := by decide +kernel
theorem w_tables : (allAtoms (Jvm.Cond.code x code maxLocals ret :: tables_1)).before args0 about1 = true := by
  rw [allAtoms_all]
  show words1.all (fun c => c.before args0 about1) = true
  refine all_split ?_ w_codes
  rw [← List.take_append_drop 24 words1, List.all_append, w_t1, ← List.take_append_drop 24 (words1.drop 24), List.all_append, w_t2, ← List.take_append_drop 24 ((words1.drop 24).drop 24), List.all_append, w_t3, ← List.take_append_drop 24 (((words1.drop 24).drop 24).drop 24), List.all_append, w_t4, ← List.take_append_drop 24 ((((words1.drop 24).drop 24).drop 24).drop 24), List.all_append, w_t5, w_t6]
  rfl
set_option maxRecDepth 65536 in
theorem w_case : (Jvm.Cond.and given_1 narrow_1).before args0 about1 = true := by decide +kernel
theorem w_applies : (headSpec (Jvm.Cond.code x code maxLocals ret :: tables_1) room_1).applies x e0.platform about1 = true :=
  (Spec.applies_iff w_frames).mpr ⟨w_running, w_runnable, w_alone, w_named, w_hears, w_ripe, w_room, w_tables⟩
theorem atStart : AtStart classFile x code maxLocals ret World_1 tables_1 room_1 Calls_1 rest_1 Pre_1 launch0 p0 e0 about1 theMethod args0 below0 :=
  ⟨lists_1, trivial, launch0.admits_env _ _ _, launch0.least_env, fairChoices_fair.cas, fairChoices_fair.clock, w_frames, w_args, w_heap, w_applies, trivial, trivial, w_case⟩
end start1
theorem witness_1 : WitnessClaimed_1 := ⟨start1.p0, start1.e0, start1.about1, start1.theMethod, start1.args0, start1.below0, start1.atStart⟩
end Jvm.Pilot.@@N@@
