import JvmDerived
import JvmDerived.Pilot.@@N@@Statement
import JvmDerived.Pilot.@@N@@Code
set_option linter.unusedVariables false
set_option linter.unusedSimpArgs false
namespace Jvm.Pilot.@@N@@
open Jvm Jvm.ClassFile Sem Op Lib Jvm.Free Jvm.Stand Jvm.LawKit Jvm.RoadKit Bundle Jvm.Pilot.@@N@@.Jvm.D
/-! the walk goes on from A and ends as P says -/
def OGo (tb : Tables) (e : Env) (below : List Frame) (P : State → Outcome → Prop) (A : State) : Prop := ∃ U o, Steps tb e below A U ∧ U.status = .running ∧ Ended U below o ∧ P U o
def OPost (s : State) (Q : Option Value → Heap → List Loc → Prop) (k n : Nat) (U : State) (o : Outcome) : Prop := ∃ v L, o = .returned v ∧ Q v U.heap L ∧ FrameEnd s o U L k n
theorem OGo.st {tb : Tables} {e : Env} {below : List Frame} {P : State → Outcome → Prop} {A B : State} (st : ∀ t, Steps tb e below B t → Steps tb e below A t) (h : OGo tb e below P B) : OGo tb e below P A := by
  obtain ⟨U, o, h1, h2⟩ := h; exact ⟨U, o, st _ h1, h2⟩
theorem OGo.tr {tb : Tables} {e : Env} {below : List Frame} {P : State → Outcome → Prop} {A B : State} (st : Steps tb e below A B) (h : OGo tb e below P B) : OGo tb e below P A := by
  obtain ⟨U, o, h1, h2⟩ := h; exact ⟨U, o, st.trans h1, h2⟩
theorem OGo.enter {tb : Tables} {e : Env} {below : List Frame} {P : State → Outcome → Prop} {T : State} {g g' : JFrame} (q : g = g') (h : OGo tb e below P (T.setTop g')) : OGo tb e below P (T.setTop g) := q ▸ h
section Own
variable {p : Program} {l : Launch} {e : Env} {R : Room} {s : State} {m : MethodId} {args : Array Value} {below : List Frame} {meth : Method} {c : Code} {T : State} {locs : List Loc} {cells slots k n : Nat} {Q : Option Value → Heap → List Loc → Prop}
theorem OGo.fin (X : Stand p l e R s m args below meth c T locs cells slots) {v : Option Value} (hv : meth.sig.returnType = none → v = none) (hlk : meth.locks = false) {g : JFrame}
    (hst : ∀ fs, (∀ (f : JFrame) (acts : List Action), f.method = m → f.locked = none → f.entered = [] → (doReturn e (T.setTop f) acts v).1 = T.setFrames fs) → Steps p.tables e below (T.setTop g) (T.setFrames fs)) (hq : Q v T.heap locs) (hk : cells ≤ k) (hn : slots ≤ n) : OGo p.tables e below (OPost s Q k n) (T.setTop g) := by
  obtain ⟨fs, hr, hrun, hended, hW, hsame⟩ := X.leave hv hlk
  exact ⟨_, _, hst fs hr, hrun, hended, _, _, rfl, hq, ⟨_, rfl⟩, hW, hsame.mono hk hn⟩
theorem own_wide (X : Stand p l e R s m args below meth c T locs cells slots) {k n : Nat} (hk : cells ≤ k) (hn : slots ≤ n) : Stand p l e R s m args below meth c T locs k n := { X with same := X.same.mono hk hn }
end Own
abbrev OMet (l : Launch) (Z : State) (y : MethodName) (code : ByteArray) (ml : Nat) (ret : Option FieldType) (ws : List Jvm.Cond) (rm : Room) (as : Array Value) (h0 : Heap) (Q : Option Value → Heap → List Loc → Prop) : Prop :=
  MetFree l y (head1 (Jvm.Cond.code y code ml ret :: ws) rm) (fun a U => a = as ∧ Z.Warmed39 U.vm ∧ U.heap = h0) (fun _ _ _ _ _ => True) (fun _ U o U' => ∃ v L, o = .returned v ∧ Q v U'.heap L ∧ FrameEnd U o U' L rm.cells rm.slots)
def own_runs (w : Int32) : Int32 := if w = 90 then 0 else if w = 88 then 0 else 1
theorem own_nar (z : Int32) : nar .char z.toUInt32.toUInt16.toUInt32.toInt32 = z.toUInt32.toUInt16.toUInt32.toInt32 := by
  show z.toUInt32.toUInt16.toUInt32.toInt32.toUInt32.toUInt16.toUInt32.toInt32 = _
  simp only [UInt32.toUInt32_toInt32, UInt16.toUInt16_toUInt32]
theorem own_cmp (z : Int32) {v : Int32} (hv : v = (if z.toUInt32.toUInt16.toUInt32.toInt32 = (90 : Int32) then (if z.toUInt32.toUInt16.toUInt32.toInt32 = (88 : Int32) then (0 : Int32) else (0 : Int32)) else (if z.toUInt32.toUInt16.toUInt32.toInt32 = (88 : Int32) then (0 : Int32) else (1 : Int32)))) : own_runs (nar .char z.toUInt32.toUInt16.toUInt32.toInt32) = v := by
  rw [hv, own_nar]; unfold own_runs; (repeat' split) <;> rfl
theorem own_d_jdk_30_method_1_code_0 : decode jdk_30_method_1_code 0 = .ok (.aload_n 0, 1) := by decide +kernel
theorem own_d_jdk_30_method_1_code_1 : decode jdk_30_method_1_code 1 = .ok (.invokespecial 1, 3) := by decide +kernel
theorem own_d_jdk_30_method_1_code_4 : decode jdk_30_method_1_code 4 = .ok (.return_, 1) := by decide +kernel
theorem own_pn0 : plainName "java/lang/Record" = true := by first | (simp [plainName, overriddenIn]; done) | decide +kernel
theorem own_ef_rm2 (m : MethodId) (x0 : Addr) : entryFrame m #[(.ref x0)] 1 = mkF m 0 #[.val (.ref x0)] [] := by first | (simp [entryFrame, mkF, argsToLocals, Value.category]; done) | rfl
def own_Q_rm2 (Z : State) (a1 : Addr) (h0 : Heap) (n0 : Nat) (v : Option Value) (h : Heap) (L : List Loc) : Prop := v = none ∧ Fr n0 L ∧ h = h0
set_option maxRecDepth 65536 in
set_option maxHeartbeats 40000000 in
theorem rm2 (l : Launch) (Z : State) (a0 : Array Value) (hw : ∀ d ∈ tables_1, d.before a0 Z = true) (ws : List Jvm.Cond) (a1 : Addr) (h0 : Heap) (n0 : Nat) (Z0 : n0 ≤ h0.size)  :
    OMet l Z (⟨"java/lang/Record", "<init>", "()V"⟩ : MethodName) jdk_30_method_1_code 1 none ws ({ frames := 1, cells := 0, slots := 0, locals := 12 } : Room) #[(.ref a1)] h0 (own_Q_rm2 Z a1 h0 n0) := by
  refine MetFree.of_bodySF (plainFor_of_name own_pn0) hisR ?_
  intro p e s m args below meth c s₁ Bd hml0 hP hK
  obtain ⟨rfl, hZ, hh⟩ := hP
  have hx := Bd.exec
  have hby := Bd.bytes
  have hml : c.maxLocals = 1 := hml0
  have hown : s.vm.findClass "java/lang/Record" = some m.cls := findClass_of_methodNamed Bd.named
  have hnm := (name_of_methodNamed Bd.named Bd.method).1
  have hlk : meth.locks = false := Bd.notSynchronized
  have X0 : Stand p l e ({ frames := 1, cells := 0, slots := 0, locals := 12 } : Room) s m #[(.ref a1)] below meth c s₁ [] 0 0 := Stand.of_body Bd
  have e0 : s₁.heap = h0 := by rw [← hh, Bd.state]; rfl
  have N0 := Fr.nil n0
  refine OGo.enter (P := OPost s (own_Q_rm2 Z a1 h0 n0) 0 0) (own_ef_rm2 m a1) ?_
  show OGo p.tables e below _ (s₁.setTop (mkF m 0 #[.val (.ref a1)] []))
  refine OGo.st (fun _ k_ => XS.aloadN X0.here hx rfl (hb hby own_d_jdk_30_method_1_code_0) rfl rfl k_) ?_
  show OGo p.tables e below _ (s₁.setTop (mkF m 1 #[.val (.ref a1)] [(.ref a1)]))
  obtain ⟨T1, X1, ez1, st1⟩ := initO X0 hx hZ hown (hw _ (List.mem_of_getElem? (i := 12) rfl)) (hw _ (List.mem_of_getElem? (i := 13) rfl)) (hw _ (List.mem_of_getElem? (i := 14) rfl)) e0 (g := (mkF m 1 #[.val (.ref a1)] [(.ref a1)])) rfl (by rw [hml]; rfl) rfl (hb hby own_d_jdk_30_method_1_code_1) (by decide) (W := 0) (by show 2 * 0 + _ ≤ _; exact Nat.le_of_eq rfl) (by decide)
  refine OGo.st st1 ?_
  show OGo p.tables e below _ (T1.setTop (mkF m 4 #[.val (.ref a1)] []))
  refine OGo.fin X1 (v := none) (fun _ => rfl) hlk (fun fs hr => X1.returnOut hx Bd.returns (hb hby own_d_jdk_30_method_1_code_4) hr) ?_ (by decide) (by decide)
  show own_Q_rm2 Z a1 h0 n0 _ T1.heap _
  rw [ez1]
  exact ⟨rfl, N0, rfl⟩
theorem own_d_prog_207_method_1_code_0 : decode prog_207_method_1_code 0 = .ok (.aload_n 0, 1) := by decide +kernel
theorem own_d_prog_207_method_1_code_1 : decode prog_207_method_1_code 1 = .ok (.invokespecial 1, 3) := by decide +kernel
theorem own_pd0 : parseMethodDescriptor "()V" = some ⟨[], none⟩ := by decide +kernel
theorem own_d_prog_207_method_1_code_4 : decode prog_207_method_1_code 4 = .ok (.aload_n 0, 1) := by decide +kernel
theorem own_d_prog_207_method_1_code_5 : decode prog_207_method_1_code 5 = .ok (.lload_n 1, 1) := by decide +kernel
theorem own_d_prog_207_method_1_code_6 : decode prog_207_method_1_code 6 = .ok (.putfield 7, 3) := by decide +kernel
theorem own_d_prog_207_method_1_code_9 : decode prog_207_method_1_code 9 = .ok (.aload_n 0, 1) := by decide +kernel
theorem own_d_prog_207_method_1_code_10 : decode prog_207_method_1_code 10 = .ok (.iload_n 3, 1) := by decide +kernel
theorem own_d_prog_207_method_1_code_11 : decode prog_207_method_1_code 11 = .ok (.putfield 13, 3) := by decide +kernel
theorem own_d_prog_207_method_1_code_14 : decode prog_207_method_1_code 14 = .ok (.aload_n 0, 1) := by decide +kernel
theorem own_d_prog_207_method_1_code_15 : decode prog_207_method_1_code 15 = .ok (.lload 4, 2) := by decide +kernel
theorem own_d_prog_207_method_1_code_17 : decode prog_207_method_1_code 17 = .ok (.putfield 17, 3) := by decide +kernel
theorem own_d_prog_207_method_1_code_20 : decode prog_207_method_1_code 20 = .ok (.aload_n 0, 1) := by decide +kernel
theorem own_d_prog_207_method_1_code_21 : decode prog_207_method_1_code 21 = .ok (.lload 6, 2) := by decide +kernel
theorem own_d_prog_207_method_1_code_23 : decode prog_207_method_1_code 23 = .ok (.putfield 20, 3) := by decide +kernel
theorem own_d_prog_207_method_1_code_26 : decode prog_207_method_1_code 26 = .ok (.return_, 1) := by decide +kernel
theorem own_pn1 : plainName "com/example/weaverbird/weaverbird/server/ProcessStat" = true := by first | (simp [plainName, overriddenIn]; done) | decide +kernel
theorem own_ef_rm1 (m : MethodId) (x0 : Addr) (x1 : Int64) (x2 : Int32) (x3 : Int64) (x4 : Int64) : entryFrame m #[(.ref x0), (.long x1), (.int x2), (.long x3), (.long x4)] 8 = mkF m 0 #[.val (.ref x0), .val (.long x1), .second, .val (.int x2), .val (.long x3), .second, .val (.long x4), .second] [] := by first | (simp [entryFrame, mkF, argsToLocals, Value.category]; done) | rfl
def own_Q_rm1 (Z : State) (a1 : Addr) (q2 : Int64) (p3 : Int32) (q4 : Int64) (q5 : Int64) (h0 : Heap) (n0 : Nat) (v : Option Value) (h : Heap) (L : List Loc) : Prop := v = none ∧ Fr n0 L ∧ Keep h0 h [a1] ∧ Fld Z h a1 "com/example/weaverbird/weaverbird/server/ProcessStat" "state" "C" (.int (nar .char p3))
set_option maxRecDepth 65536 in
set_option maxHeartbeats 40000000 in
theorem rm1 (l : Launch) (Z : State) (a0 : Array Value) (hw : ∀ d ∈ tables_1, d.before a0 Z = true) (ws : List Jvm.Cond) (a1 : Addr) (q2 : Int64) (p3 : Int32) (q4 : Int64) (q5 : Int64) (h0 : Heap) (n0 : Nat) (Z0 : n0 ≤ h0.size) (E_a1 : Exa Z h0 a1 "com/example/weaverbird/weaverbird/server/ProcessStat") (F_process_a1 : Fld Z h0 a1 "com/example/weaverbird/weaverbird/server/ProcessStat" "process" "J" (.long (0 : Int64))) (F_state_a1 : Fld Z h0 a1 "com/example/weaverbird/weaverbird/server/ProcessStat" "state" "C" (.int (0 : Int32))) (F_parent_a1 : Fld Z h0 a1 "com/example/weaverbird/weaverbird/server/ProcessStat" "parent" "J" (.long (0 : Int64))) (F_started_a1 : Fld Z h0 a1 "com/example/weaverbird/weaverbird/server/ProcessStat" "started" "J" (.long (0 : Int64))) (g_a1 : n0 ≤ a1) :
    OMet l Z (⟨"com/example/weaverbird/weaverbird/server/ProcessStat", "<init>", "(JCJJ)V"⟩ : MethodName) prog_207_method_1_code 8 none ws ({ frames := 2, cells := 0, slots := 0, locals := 24 } : Room) #[(.ref a1), (.long q2), (.int p3), (.long q4), (.long q5)] h0 (own_Q_rm1 Z a1 q2 p3 q4 q5 h0 n0) := by
  refine MetFree.of_bodySF (plainFor_of_name own_pn1) hisR ?_
  intro p e s m args below meth c s₁ Bd hml0 hP hK
  obtain ⟨rfl, hZ, hh⟩ := hP
  have hx := Bd.exec
  have hby := Bd.bytes
  have hml : c.maxLocals = 8 := hml0
  have hown : s.vm.findClass "com/example/weaverbird/weaverbird/server/ProcessStat" = some m.cls := findClass_of_methodNamed Bd.named
  have hnm := (name_of_methodNamed Bd.named Bd.method).1
  have hlk : meth.locks = false := Bd.notSynchronized
  have X0 : Stand p l e ({ frames := 2, cells := 0, slots := 0, locals := 24 } : Room) s m #[(.ref a1), (.long q2), (.int p3), (.long q4), (.long q5)] below meth c s₁ [] 0 0 := Stand.of_body Bd
  have e0 : s₁.heap = h0 := by rw [← hh, Bd.state]; rfl
  have N0 := Fr.nil n0
  refine OGo.enter (P := OPost s (own_Q_rm1 Z a1 q2 p3 q4 q5 h0 n0) 0 0) (own_ef_rm1 m a1 q2 p3 q4 q5) ?_
  show OGo p.tables e below _ (s₁.setTop (mkF m 0 #[.val (.ref a1), .val (.long q2), .second, .val (.int p3), .val (.long q4), .second, .val (.long q5), .second] []))
  refine OGo.st (fun _ k_ => XS.aloadN X0.here hx rfl (hb hby own_d_prog_207_method_1_code_0) rfl rfl k_) ?_
  show OGo p.tables e below _ (s₁.setTop (mkF m 1 #[.val (.ref a1), .val (.long q2), .second, .val (.int p3), .val (.long q4), .second, .val (.long q5), .second] [(.ref a1)]))
  obtain ⟨_, _, ⟨T1, Lz1, kz1, nz1⟩, -, X1, ⟨Lc1, hQ1, lz1, yz1, zz1⟩, st1⟩ := X0.specialBack hx (y := (⟨"java/lang/Record", "<init>", "()V"⟩ : MethodName)) rfl hown (mvT hZ (hw _ (List.mem_of_getElem? (i := 7) rfl))) (mvT hZ (hw _ (List.mem_of_getElem? (i := 8) rfl))) (mvT hZ (hw _ (List.mem_of_getElem? (i := 11) rfl))) (by decide) (backOf (W := 0) (rm2 l Z a0 hw [] a1 h0 n0 (Nat.le_trans Z0 (Keep.refl h0 [a1]).1) ) hZ (hw _ (List.mem_of_getElem? (i := 11) rfl)) (hw _ (List.mem_of_getElem? (i := 10) rfl)) (by decide) (by decide)) (g := (mkF m 1 #[.val (.ref a1), .val (.long q2), .second, .val (.int p3), .val (.long q4), .second, .val (.long q5), .second] [(.ref a1)])) rfl (by rw [hml]; rfl) (Steps.refl _) (a := a1) (argsL := []) (rest := []) (lenOf own_pd0 rfl) rfl (by show 2 * 0 + _ ≤ _; exact Nat.le_of_eq rfl) (hb hby own_d_prog_207_method_1_code_1) (fun _ _ => ⟨rfl, e0, (by decide : 0 + 0 ≤ _), (by decide : 0 + 0 ≤ _)⟩)
  dsimp only [Pt.U, Pt.locs, Pt.cells, Pt.slots] at X1 lz1 yz1 zz1 st1 hQ1
  subst lz1 yz1 zz1
  obtain ⟨rfl, Nq1, ez1⟩ := hQ1
  have N1 := Fr.app N0 Nq1
  refine OGo.tr st1 ?_
  show OGo p.tables e below _ (T1.setTop (mkF m 4 #[.val (.ref a1), .val (.long q2), .second, .val (.int p3), .val (.long q4), .second, .val (.long q5), .second] []))
  refine OGo.st (fun _ k_ => XS.aloadN X1.here hx rfl (hb hby own_d_prog_207_method_1_code_4) rfl rfl k_) ?_
  show OGo p.tables e below _ (T1.setTop (mkF m 5 #[.val (.ref a1), .val (.long q2), .second, .val (.int p3), .val (.long q4), .second, .val (.long q5), .second] [(.ref a1)]))
  refine OGo.st (fun _ k_ => XS.lloadN X1.here hx rfl (hb hby own_d_prog_207_method_1_code_5) rfl k_) ?_
  show OGo p.tables e below _ (T1.setTop (mkF m 6 #[.val (.ref a1), .val (.long q2), .second, .val (.int p3), .val (.long q4), .second, .val (.long q5), .second] [(.long q2), (.ref a1)]))
  obtain ⟨T2, hz2, X2, ez2, W2, st2⟩ := putF X1 hx hZ hown (host := "") (Or.inl (hw _ (List.mem_of_getElem? (i := 15) rfl))) Via.refl ez1 F_process_a1 E_a1 (Or.inr ⟨(hw _ (List.mem_of_getElem? (i := 16) rfl)), rfl, hnm⟩) (hw _ (List.mem_of_getElem? (i := 2) rfl)) (ty := .long) (by decide) rfl rfl (g := (mkF m 6 #[.val (.ref a1), .val (.long q2), .second, .val (.int p3), .val (.long q4), .second, .val (.long q5), .second] [(.long q2), (.ref a1)])) rfl rfl (hb hby own_d_prog_207_method_1_code_6)
  have Fw2 : Fld Z hz2 a1 "com/example/weaverbird/weaverbird/server/ProcessStat" "process" "J" (.long q2) := F_process_a1.same W2
  have Ex_3 := E_a1.wr W2
  have F_4 := F_state_a1.other W2 (Or.inr (slot_ne (Or.inr (hw _ (List.mem_of_getElem? (i := 18) rfl))) (Or.inr (hw _ (List.mem_of_getElem? (i := 16) rfl))) (by decide) (t := .char) (t' := .long) (by decide) (by decide)))
  have F_5 := F_parent_a1.other W2 (Or.inr (slot_ne (Or.inr (hw _ (List.mem_of_getElem? (i := 20) rfl))) (Or.inr (hw _ (List.mem_of_getElem? (i := 16) rfl))) (by decide) (t := .long) (t' := .long) (by decide) (by decide)))
  have F_6 := F_started_a1.other W2 (Or.inr (slot_ne (Or.inr (hw _ (List.mem_of_getElem? (i := 22) rfl))) (Or.inr (hw _ (List.mem_of_getElem? (i := 16) rfl))) (by decide) (t := .long) (t' := .long) (by decide) (by decide)))
  have N2 := Fr.snoc X2 N1 g_a1
  have K_7 : Keep h0 hz2 [a1] := (Keep.refl h0 [a1]).wr W2 (Or.inl (List.mem_of_getElem? (i := 0) rfl))
  refine OGo.st st2 ?_
  show OGo p.tables e below _ (T2.setTop (mkF m 9 #[.val (.ref a1), .val (.long q2), .second, .val (.int p3), .val (.long q4), .second, .val (.long q5), .second] []))
  refine OGo.st (fun _ k_ => XS.aloadN X2.here hx rfl (hb hby own_d_prog_207_method_1_code_9) rfl rfl k_) ?_
  show OGo p.tables e below _ (T2.setTop (mkF m 10 #[.val (.ref a1), .val (.long q2), .second, .val (.int p3), .val (.long q4), .second, .val (.long q5), .second] [(.ref a1)]))
  refine OGo.st (fun _ k_ => XS.iloadN X2.here hx rfl (hb hby own_d_prog_207_method_1_code_10) rfl k_) ?_
  show OGo p.tables e below _ (T2.setTop (mkF m 11 #[.val (.ref a1), .val (.long q2), .second, .val (.int p3), .val (.long q4), .second, .val (.long q5), .second] [(.int p3), (.ref a1)]))
  obtain ⟨T8, hz8, X8, ez8, W8, st8⟩ := putFN X2 hx hZ hown (hw _ (List.mem_of_getElem? (i := 17) rfl)) Via.refl ez2 F_4 Ex_3 (Or.inr ⟨(hw _ (List.mem_of_getElem? (i := 18) rfl)), rfl, hnm⟩) (hw _ (List.mem_of_getElem? (i := 2) rfl)) (ty := .char) (v' := (.int (nar .char p3))) (by decide) rfl (fits_nar_char _) (g := (mkF m 11 #[.val (.ref a1), .val (.long q2), .second, .val (.int p3), .val (.long q4), .second, .val (.long q5), .second] [(.int p3), (.ref a1)])) rfl rfl (hb hby own_d_prog_207_method_1_code_11)
  have Fw8 : Fld Z hz8 a1 "com/example/weaverbird/weaverbird/server/ProcessStat" "state" "C" (.int (nar .char p3)) := F_4.same W8
  have Ex_9 := Ex_3.wr W8
  have F_10 := F_5.other W8 (Or.inr (slot_ne (Or.inr (hw _ (List.mem_of_getElem? (i := 20) rfl))) (Or.inr (hw _ (List.mem_of_getElem? (i := 18) rfl))) (by decide) (t := .long) (t' := .char) (by decide) (by decide)))
  have F_11 := F_6.other W8 (Or.inr (slot_ne (Or.inr (hw _ (List.mem_of_getElem? (i := 22) rfl))) (Or.inr (hw _ (List.mem_of_getElem? (i := 18) rfl))) (by decide) (t := .long) (t' := .char) (by decide) (by decide)))
  have F_12 := Fw2.other W8 (Or.inr (slot_ne (Or.inr (hw _ (List.mem_of_getElem? (i := 16) rfl))) (Or.inr (hw _ (List.mem_of_getElem? (i := 18) rfl))) (by decide) (t := .long) (t' := .char) (by decide) (by decide)))
  have N8 := Fr.snoc X8 N2 g_a1
  have K_13 : Keep h0 hz8 [a1] := K_7.wr W8 (Or.inl (List.mem_of_getElem? (i := 0) rfl))
  refine OGo.st st8 ?_
  show OGo p.tables e below _ (T8.setTop (mkF m 14 #[.val (.ref a1), .val (.long q2), .second, .val (.int p3), .val (.long q4), .second, .val (.long q5), .second] []))
  refine OGo.st (fun _ k_ => XS.aloadN X8.here hx rfl (hb hby own_d_prog_207_method_1_code_14) rfl rfl k_) ?_
  show OGo p.tables e below _ (T8.setTop (mkF m 15 #[.val (.ref a1), .val (.long q2), .second, .val (.int p3), .val (.long q4), .second, .val (.long q5), .second] [(.ref a1)]))
  refine OGo.st (fun _ k_ => XS.lload X8.here hx rfl (hb hby own_d_prog_207_method_1_code_15) rfl k_) ?_
  show OGo p.tables e below _ (T8.setTop (mkF m 17 #[.val (.ref a1), .val (.long q2), .second, .val (.int p3), .val (.long q4), .second, .val (.long q5), .second] [(.long q4), (.ref a1)]))
  obtain ⟨T14, hz14, X14, ez14, W14, st14⟩ := putF X8 hx hZ hown (host := "") (Or.inl (hw _ (List.mem_of_getElem? (i := 19) rfl))) Via.refl ez8 F_10 Ex_9 (Or.inr ⟨(hw _ (List.mem_of_getElem? (i := 20) rfl)), rfl, hnm⟩) (hw _ (List.mem_of_getElem? (i := 2) rfl)) (ty := .long) (by decide) rfl rfl (g := (mkF m 17 #[.val (.ref a1), .val (.long q2), .second, .val (.int p3), .val (.long q4), .second, .val (.long q5), .second] [(.long q4), (.ref a1)])) rfl rfl (hb hby own_d_prog_207_method_1_code_17)
  have Fw14 : Fld Z hz14 a1 "com/example/weaverbird/weaverbird/server/ProcessStat" "parent" "J" (.long q4) := F_10.same W14
  have Ex_15 := Ex_9.wr W14
  have F_16 := F_11.other W14 (Or.inr (slot_ne (Or.inr (hw _ (List.mem_of_getElem? (i := 22) rfl))) (Or.inr (hw _ (List.mem_of_getElem? (i := 20) rfl))) (by decide) (t := .long) (t' := .long) (by decide) (by decide)))
  have F_17 := F_12.other W14 (Or.inr (slot_ne (Or.inr (hw _ (List.mem_of_getElem? (i := 16) rfl))) (Or.inr (hw _ (List.mem_of_getElem? (i := 20) rfl))) (by decide) (t := .long) (t' := .long) (by decide) (by decide)))
  have F_18 := Fw8.other W14 (Or.inr (slot_ne (Or.inr (hw _ (List.mem_of_getElem? (i := 18) rfl))) (Or.inr (hw _ (List.mem_of_getElem? (i := 20) rfl))) (by decide) (t := .char) (t' := .long) (by decide) (by decide)))
  have N14 := Fr.snoc X14 N8 g_a1
  have K_19 : Keep h0 hz14 [a1] := K_13.wr W14 (Or.inl (List.mem_of_getElem? (i := 0) rfl))
  refine OGo.st st14 ?_
  show OGo p.tables e below _ (T14.setTop (mkF m 20 #[.val (.ref a1), .val (.long q2), .second, .val (.int p3), .val (.long q4), .second, .val (.long q5), .second] []))
  refine OGo.st (fun _ k_ => XS.aloadN X14.here hx rfl (hb hby own_d_prog_207_method_1_code_20) rfl rfl k_) ?_
  show OGo p.tables e below _ (T14.setTop (mkF m 21 #[.val (.ref a1), .val (.long q2), .second, .val (.int p3), .val (.long q4), .second, .val (.long q5), .second] [(.ref a1)]))
  refine OGo.st (fun _ k_ => XS.lload X14.here hx rfl (hb hby own_d_prog_207_method_1_code_21) rfl k_) ?_
  show OGo p.tables e below _ (T14.setTop (mkF m 23 #[.val (.ref a1), .val (.long q2), .second, .val (.int p3), .val (.long q4), .second, .val (.long q5), .second] [(.long q5), (.ref a1)]))
  obtain ⟨T20, hz20, X20, ez20, W20, st20⟩ := putF X14 hx hZ hown (host := "") (Or.inl (hw _ (List.mem_of_getElem? (i := 21) rfl))) Via.refl ez14 F_16 Ex_15 (Or.inr ⟨(hw _ (List.mem_of_getElem? (i := 22) rfl)), rfl, hnm⟩) (hw _ (List.mem_of_getElem? (i := 2) rfl)) (ty := .long) (by decide) rfl rfl (g := (mkF m 23 #[.val (.ref a1), .val (.long q2), .second, .val (.int p3), .val (.long q4), .second, .val (.long q5), .second] [(.long q5), (.ref a1)])) rfl rfl (hb hby own_d_prog_207_method_1_code_23)
  have Fw20 : Fld Z hz20 a1 "com/example/weaverbird/weaverbird/server/ProcessStat" "started" "J" (.long q5) := F_16.same W20
  have Ex_21 := Ex_15.wr W20
  have F_22 := F_17.other W20 (Or.inr (slot_ne (Or.inr (hw _ (List.mem_of_getElem? (i := 16) rfl))) (Or.inr (hw _ (List.mem_of_getElem? (i := 22) rfl))) (by decide) (t := .long) (t' := .long) (by decide) (by decide)))
  have F_23 := F_18.other W20 (Or.inr (slot_ne (Or.inr (hw _ (List.mem_of_getElem? (i := 18) rfl))) (Or.inr (hw _ (List.mem_of_getElem? (i := 22) rfl))) (by decide) (t := .char) (t' := .long) (by decide) (by decide)))
  have F_24 := Fw14.other W20 (Or.inr (slot_ne (Or.inr (hw _ (List.mem_of_getElem? (i := 20) rfl))) (Or.inr (hw _ (List.mem_of_getElem? (i := 22) rfl))) (by decide) (t := .long) (t' := .long) (by decide) (by decide)))
  have N20 := Fr.snoc X20 N14 g_a1
  have K_25 : Keep h0 hz20 [a1] := K_19.wr W20 (Or.inl (List.mem_of_getElem? (i := 0) rfl))
  refine OGo.st st20 ?_
  show OGo p.tables e below _ (T20.setTop (mkF m 26 #[.val (.ref a1), .val (.long q2), .second, .val (.int p3), .val (.long q4), .second, .val (.long q5), .second] []))
  refine OGo.fin X20 (v := none) (fun _ => rfl) hlk (fun fs hr => X20.returnOut hx Bd.returns (hb hby own_d_prog_207_method_1_code_26) hr) ?_ (by decide) (by decide)
  show own_Q_rm1 Z a1 q2 p3 q4 q5 h0 n0 _ T20.heap _
  rw [ez20]
  exact ⟨rfl, N20, K_25, F_23⟩
theorem own_d_prog_207_method_3_code_0 : decode prog_207_method_3_code 0 = .ok (.aload_n 0, 1) := by decide +kernel
theorem own_d_prog_207_method_3_code_1 : decode prog_207_method_3_code 1 = .ok (.getfield 13, 3) := by decide +kernel
theorem own_d_prog_207_method_3_code_4 : decode prog_207_method_3_code 4 = .ok (.bipush 90, 2) := by decide +kernel
theorem own_d_prog_207_method_3_code_6 : decode prog_207_method_3_code 6 = .ok (.if_icmp .eq 16, 3) := by decide +kernel
theorem own_d_prog_207_method_3_code_22 : decode prog_207_method_3_code 22 = .ok (.iconst 0, 1) := by decide +kernel
theorem own_d_prog_207_method_3_code_23 : decode prog_207_method_3_code 23 = .ok (.ireturn, 1) := by decide +kernel
theorem own_d_prog_207_method_3_code_9 : decode prog_207_method_3_code 9 = .ok (.aload_n 0, 1) := by decide +kernel
theorem own_d_prog_207_method_3_code_10 : decode prog_207_method_3_code 10 = .ok (.getfield 13, 3) := by decide +kernel
theorem own_d_prog_207_method_3_code_13 : decode prog_207_method_3_code 13 = .ok (.bipush 88, 2) := by decide +kernel
theorem own_d_prog_207_method_3_code_15 : decode prog_207_method_3_code 15 = .ok (.if_icmp .eq 7, 3) := by decide +kernel
theorem own_d_prog_207_method_3_code_18 : decode prog_207_method_3_code 18 = .ok (.iconst 1, 1) := by decide +kernel
theorem own_d_prog_207_method_3_code_19 : decode prog_207_method_3_code 19 = .ok (.goto 4, 3) := by decide +kernel
theorem own_ef_rm4 (m : MethodId) (x0 : Addr) : entryFrame m #[(.ref x0)] 1 = mkF m 0 #[.val (.ref x0)] [] := by first | (simp [entryFrame, mkF, argsToLocals, Value.category]; done) | rfl
def own_Q_rm4 (Z : State) (a1 : Addr) (w : Int32) (h0 : Heap) (n0 : Nat) (v : Option Value) (h : Heap) (L : List Loc) : Prop := v = some (.int (own_runs w)) ∧ Fr n0 L ∧ h = h0
set_option maxRecDepth 65536 in
set_option maxHeartbeats 40000000 in
theorem rm4 (l : Launch) (Z : State) (a0 : Array Value) (hw : ∀ d ∈ tables_1, d.before a0 Z = true) (ws : List Jvm.Cond) (a1 : Addr) (w : Int32) (h0 : Heap) (n0 : Nat) (Z0 : n0 ≤ h0.size) (F_state_a1 : Fld Z h0 a1 "com/example/weaverbird/weaverbird/server/ProcessStat" "state" "C" (.int w)) :
    OMet l Z (⟨"com/example/weaverbird/weaverbird/server/ProcessStat", "runs", "()Z"⟩ : MethodName) prog_207_method_3_code 1 (some .boolean) ws ({ frames := 0, cells := 0, slots := 0, locals := 0 } : Room) #[(.ref a1)] h0 (own_Q_rm4 Z a1 w h0 n0) := by
  refine MetFree.of_bodySF (plainFor_of_name own_pn1) hisR ?_
  intro p e s m args below meth c s₁ Bd hml0 hP hK
  obtain ⟨rfl, hZ, hh⟩ := hP
  have hx := Bd.exec
  have hby := Bd.bytes
  have hml : c.maxLocals = 1 := hml0
  have hown : s.vm.findClass "com/example/weaverbird/weaverbird/server/ProcessStat" = some m.cls := findClass_of_methodNamed Bd.named
  have hnm := (name_of_methodNamed Bd.named Bd.method).1
  have hlk : meth.locks = false := Bd.notSynchronized
  have X0 : Stand p l e ({ frames := 0, cells := 0, slots := 0, locals := 0 } : Room) s m #[(.ref a1)] below meth c s₁ [] 0 0 := Stand.of_body Bd
  have e0 : s₁.heap = h0 := by rw [← hh, Bd.state]; rfl
  have N0 := Fr.nil n0
  refine OGo.enter (P := OPost s (own_Q_rm4 Z a1 w h0 n0) 0 0) (own_ef_rm4 m a1) ?_
  show OGo p.tables e below _ (s₁.setTop (mkF m 0 #[.val (.ref a1)] []))
  refine OGo.st (fun _ k_ => XS.aloadN X0.here hx rfl (hb hby own_d_prog_207_method_3_code_0) rfl rfl k_) ?_
  show OGo p.tables e below _ (s₁.setTop (mkF m 1 #[.val (.ref a1)] [(.ref a1)]))
  obtain ⟨T1, X1, ez1, st1⟩ := getF X0 hx hZ hown (host := "") (Or.inl (hw _ (List.mem_of_getElem? (i := 17) rfl))) Via.refl e0 F_state_a1 (g := (mkF m 1 #[.val (.ref a1)] [(.ref a1)])) rfl rfl (hb hby own_d_prog_207_method_3_code_1)
  refine OGo.st st1 ?_
  show OGo p.tables e below _ (T1.setTop (mkF m 4 #[.val (.ref a1)] [(.int w)]))
  refine OGo.st (fun _ k_ => XS.bipush X1.here hx rfl (hb hby own_d_prog_207_method_3_code_4) k_) ?_
  show OGo p.tables e below _ (T1.setTop (mkF m 6 #[.val (.ref a1)] [(.int (90 : Int32)), (.int w)]))
  by_cases hc6 : w = (90 : Int32)
  · refine OGo.st (fun _ k_ => XS.icmpYes X1.here hx rfl (pc0 := 6) (pc' := 22) rfl (hb hby own_d_prog_207_method_3_code_6) rfl (XT.ii_eq_t hc6) (by decide) (by decide) k_) ?_
    show OGo p.tables e below _ (T1.setTop (mkF m 22 #[.val (.ref a1)] []))
    refine OGo.st (fun _ k_ => XS.iconst X1.here hx rfl (hb hby own_d_prog_207_method_3_code_22) k_) ?_
    show OGo p.tables e below _ (T1.setTop (mkF m 23 #[.val (.ref a1)] [(.int (0 : Int32))]))
    refine OGo.fin X1 (v := some (.int (0 : Int32))) (fun h => by rw [Bd.returns] at h; cases h) hlk (fun fs hr => X1.ireturnOut hx Bd.returns rfl (by simp) (hb hby own_d_prog_207_method_3_code_23) hr) ?_ (by decide) (by decide)
    show own_Q_rm4 Z a1 w h0 n0 _ T1.heap _
    rw [ez1]
    exact ⟨by simp [own_runs, hc6], N0, rfl⟩
  · refine OGo.st (fun _ k_ => XS.icmpNo X1.here hx rfl (hb hby own_d_prog_207_method_3_code_6) rfl (XT.ii_eq_f hc6) k_) ?_
    show OGo p.tables e below _ (T1.setTop (mkF m 9 #[.val (.ref a1)] []))
    refine OGo.st (fun _ k_ => XS.aloadN X1.here hx rfl (hb hby own_d_prog_207_method_3_code_9) rfl rfl k_) ?_
    show OGo p.tables e below _ (T1.setTop (mkF m 10 #[.val (.ref a1)] [(.ref a1)]))
    obtain ⟨T2, X2, ez2, st2⟩ := getF X1 hx hZ hown (host := "") (Or.inl (hw _ (List.mem_of_getElem? (i := 17) rfl))) Via.refl ez1 F_state_a1 (g := (mkF m 10 #[.val (.ref a1)] [(.ref a1)])) rfl rfl (hb hby own_d_prog_207_method_3_code_10)
    refine OGo.st st2 ?_
    show OGo p.tables e below _ (T2.setTop (mkF m 13 #[.val (.ref a1)] [(.int w)]))
    refine OGo.st (fun _ k_ => XS.bipush X2.here hx rfl (hb hby own_d_prog_207_method_3_code_13) k_) ?_
    show OGo p.tables e below _ (T2.setTop (mkF m 15 #[.val (.ref a1)] [(.int (88 : Int32)), (.int w)]))
    by_cases hc15 : w = (88 : Int32)
    · refine OGo.st (fun _ k_ => XS.icmpYes X2.here hx rfl (pc0 := 15) (pc' := 22) rfl (hb hby own_d_prog_207_method_3_code_15) rfl (XT.ii_eq_t hc15) (by decide) (by decide) k_) ?_
      show OGo p.tables e below _ (T2.setTop (mkF m 22 #[.val (.ref a1)] []))
      refine OGo.st (fun _ k_ => XS.iconst X2.here hx rfl (hb hby own_d_prog_207_method_3_code_22) k_) ?_
      show OGo p.tables e below _ (T2.setTop (mkF m 23 #[.val (.ref a1)] [(.int (0 : Int32))]))
      refine OGo.fin X2 (v := some (.int (0 : Int32))) (fun h => by rw [Bd.returns] at h; cases h) hlk (fun fs hr => X2.ireturnOut hx Bd.returns rfl (by simp) (hb hby own_d_prog_207_method_3_code_23) hr) ?_ (by decide) (by decide)
      show own_Q_rm4 Z a1 w h0 n0 _ T2.heap _
      rw [ez2]
      exact ⟨by simp [own_runs, hc6, hc15], N0, rfl⟩
    · refine OGo.st (fun _ k_ => XS.icmpNo X2.here hx rfl (hb hby own_d_prog_207_method_3_code_15) rfl (XT.ii_eq_f hc15) k_) ?_
      show OGo p.tables e below _ (T2.setTop (mkF m 18 #[.val (.ref a1)] []))
      refine OGo.st (fun _ k_ => XS.iconst X2.here hx rfl (hb hby own_d_prog_207_method_3_code_18) k_) ?_
      show OGo p.tables e below _ (T2.setTop (mkF m 19 #[.val (.ref a1)] [(.int (1 : Int32))]))
      refine OGo.st (fun _ k_ => XS.goto X2.here hx rfl (pc0 := 19) (pc' := 23) rfl (hb hby own_d_prog_207_method_3_code_19) (by decide) (by decide) k_) ?_
      show OGo p.tables e below _ (T2.setTop (mkF m 23 #[.val (.ref a1)] [(.int (1 : Int32))]))
      refine OGo.fin X2 (v := some (.int (1 : Int32))) (fun h => by rw [Bd.returns] at h; cases h) hlk (fun fs hr => X2.ireturnOut hx Bd.returns rfl (by simp) (hb hby own_d_prog_207_method_3_code_23) hr) ?_ (by decide) (by decide)
      show own_Q_rm4 Z a1 w h0 n0 _ T2.heap _
      rw [ez2]
      exact ⟨by simp [own_runs, hc6, hc15], N0, rfl⟩
theorem own_pd1 : parseMethodDescriptor "(JCJJ)V" = some ⟨[.long, .char, .long, .long], none⟩ := by decide +kernel
theorem own_pd2 : parseMethodDescriptor "()Z" = some ⟨[], some .boolean⟩ := by decide +kernel
theorem own_pn2 : plainName "com/example/weaverbird/weaverbird/server/ProcessStatRunsPinLaw" = true := by first | (simp [plainName, overriddenIn]; done) | decide +kernel
theorem own_ef_rm0 (m : MethodId) (x0 : Int32) (x1 : Int64) (x2 : Int64) (x3 : Int64) (x4 : Int64) : entryFrame m #[(.int x0), (.long x1), (.long x2), (.long x3), (.long x4)] maxLocals = mkF m 0 #[.val (.int x0), .val (.long x1), .second, .val (.long x2), .second, .val (.long x3), .second, .val (.long x4), .second, .unset, .unset, .unset, .unset, .unset, .unset, .unset, .unset] [] := by first | (simp [entryFrame, mkF, argsToLocals, Value.category, maxLocals]; done) | rfl
def own_Q_rm0 (Z : State) (p1 : Int32) (q2 : Int64) (q3 : Int64) (q4 : Int64) (q5 : Int64) (h0 : Heap) (n0 : Nat) (v : Option Value) (h : Heap) (L : List Loc) : Prop := v = some (.int 1) ∧ Fr n0 L
set_option maxRecDepth 65536 in
set_option maxHeartbeats 40000000 in
theorem rm0 (l : Launch) (Z : State) (a0 : Array Value) (hw : ∀ d ∈ tables_1, d.before a0 Z = true) (ws : List Jvm.Cond) (p1 : Int32) (q2 : Int64) (q3 : Int64) (q4 : Int64) (q5 : Int64) (h0 : Heap) (n0 : Nat) (Z0 : n0 ≤ h0.size)  :
    OMet l Z x code maxLocals ret ws room_1 #[(.int p1), (.long q2), (.long q3), (.long q4), (.long q5)] h0 (own_Q_rm0 Z p1 q2 q3 q4 q5 h0 n0) := by
  refine MetFree.of_bodySF (plainFor_of_name own_pn2) hisR ?_
  intro p e s m args below meth c s₁ Bd hml0 hP hK
  obtain ⟨rfl, hZ, hh⟩ := hP
  have hx := Bd.exec
  have hby := Bd.bytes
  have hml : c.maxLocals = 17 := hml0
  have hown : s.vm.findClass "com/example/weaverbird/weaverbird/server/ProcessStatRunsPinLaw" = some m.cls := findClass_of_methodNamed Bd.named
  have hnm := (name_of_methodNamed Bd.named Bd.method).1
  have hlk : meth.locks = false := Bd.notSynchronized
  have X0 : Stand p l e room_1 s m #[(.int p1), (.long q2), (.long q3), (.long q4), (.long q5)] below meth c s₁ [] 0 0 := Stand.of_body Bd
  have e0 : s₁.heap = h0 := by rw [← hh, Bd.state]; rfl
  have N0 := Fr.nil n0
  refine OGo.enter (P := OPost s (own_Q_rm0 Z p1 q2 q3 q4 q5 h0 n0) room_1.cells room_1.slots) (own_ef_rm0 m p1 q2 q3 q4 q5) ?_
  show OGo p.tables e below _ (s₁.setTop (mkF m 0 #[.val (.int p1), .val (.long q2), .second, .val (.long q3), .second, .val (.long q4), .second, .val (.long q5), .second, .unset, .unset, .unset, .unset, .unset, .unset, .unset, .unset] []))
  refine OGo.st (fun _ k_ => XS.iloadN X0.here hx rfl (hb hby at_0) rfl k_) ?_
  show OGo p.tables e below _ (s₁.setTop (mkF m 1 #[.val (.int p1), .val (.long q2), .second, .val (.long q3), .second, .val (.long q4), .second, .val (.long q5), .second, .unset, .unset, .unset, .unset, .unset, .unset, .unset, .unset] [(.int p1)]))
  refine OGo.st (fun _ k_ => X0.ldcI hx hown (mvT hZ (hw _ (List.mem_of_getElem? (i := 0) rfl))) rfl (hb hby at_1) k_) ?_
  show OGo p.tables e below _ (s₁.setTop (mkF m 3 #[.val (.int p1), .val (.long q2), .second, .val (.long q3), .second, .val (.long q4), .second, .val (.long q5), .second, .unset, .unset, .unset, .unset, .unset, .unset, .unset, .unset] [(.int (65535 : Int32)), (.int p1)]))
  refine OGo.st (fun _ k_ => XS.iand X0.here hx rfl (hb hby at_3) rfl k_) ?_
  show OGo p.tables e below _ (s₁.setTop (mkF m 4 #[.val (.int p1), .val (.long q2), .second, .val (.long q3), .second, .val (.long q4), .second, .val (.long q5), .second, .unset, .unset, .unset, .unset, .unset, .unset, .unset, .unset] [(.int (p1 &&& (65535 : Int32)))]))
  refine OGo.st (fun _ k_ => XS.i2c X0.here hx rfl (hb hby at_4) rfl k_) ?_
  show OGo p.tables e below _ (s₁.setTop (mkF m 5 #[.val (.int p1), .val (.long q2), .second, .val (.long q3), .second, .val (.long q4), .second, .val (.long q5), .second, .unset, .unset, .unset, .unset, .unset, .unset, .unset, .unset] [(.int (p1 &&& (65535 : Int32)).toUInt32.toUInt16.toUInt32.toInt32)]))
  refine OGo.st (fun _ k_ => XS.istore X0.here hx rfl (hb hby at_5) rfl (l' := #[.val (.int p1), .val (.long q2), .second, .val (.long q3), .second, .val (.long q4), .second, .val (.long q5), .second, .val (.int (p1 &&& (65535 : Int32)).toUInt32.toUInt16.toUInt32.toInt32), .unset, .unset, .unset, .unset, .unset, .unset, .unset]) rfl k_) ?_
  show OGo p.tables e below _ (s₁.setTop (mkF m 7 #[.val (.int p1), .val (.long q2), .second, .val (.long q3), .second, .val (.long q4), .second, .val (.long q5), .second, .val (.int (p1 &&& (65535 : Int32)).toUInt32.toUInt16.toUInt32.toInt32), .unset, .unset, .unset, .unset, .unset, .unset, .unset] []))
  refine OGo.st (fun _ k_ => XS.iconst X0.here hx rfl (hb hby at_7) k_) ?_
  show OGo p.tables e below _ (s₁.setTop (mkF m 8 #[.val (.int p1), .val (.long q2), .second, .val (.long q3), .second, .val (.long q4), .second, .val (.long q5), .second, .val (.int (p1 &&& (65535 : Int32)).toUInt32.toUInt16.toUInt32.toInt32), .unset, .unset, .unset, .unset, .unset, .unset, .unset] [(.int (1 : Int32))]))
  refine OGo.st (fun _ k_ => XS.istore X0.here hx rfl (hb hby at_8) rfl (l' := #[.val (.int p1), .val (.long q2), .second, .val (.long q3), .second, .val (.long q4), .second, .val (.long q5), .second, .val (.int (p1 &&& (65535 : Int32)).toUInt32.toUInt16.toUInt32.toInt32), .val (.int (1 : Int32)), .unset, .unset, .unset, .unset, .unset, .unset]) rfl k_) ?_
  obtain ⟨vx, hvz1, st1⟩ : ∃ vx : Int32, vx = (if (p1 &&& (65535 : Int32)).toUInt32.toUInt16.toUInt32.toInt32 = (90 : Int32) then (if (p1 &&& (65535 : Int32)).toUInt32.toUInt16.toUInt32.toInt32 = (88 : Int32) then (0 : Int32) else (0 : Int32)) else (if (p1 &&& (65535 : Int32)).toUInt32.toUInt16.toUInt32.toInt32 = (88 : Int32) then (0 : Int32) else (1 : Int32))) ∧ ∀ t, Steps p.tables e below (s₁.setTop (mkF m 30 #[.val (.int p1), .val (.long q2), .second, .val (.long q3), .second, .val (.long q4), .second, .val (.long q5), .second, .val (.int (p1 &&& (65535 : Int32)).toUInt32.toUInt16.toUInt32.toInt32), .val (.int vx), .unset, .unset, .unset, .unset, .unset, .unset] [])) t → Steps p.tables e below (s₁.setTop (mkF m 10 #[.val (.int p1), .val (.long q2), .second, .val (.long q3), .second, .val (.long q4), .second, .val (.long q5), .second, .val (.int (p1 &&& (65535 : Int32)).toUInt32.toUInt16.toUInt32.toInt32), .val (.int (1 : Int32)), .unset, .unset, .unset, .unset, .unset, .unset] [])) t := by
    refine ⟨_, rfl, fun t k => ?_⟩
    show Steps p.tables e below (s₁.setTop (mkF m 10 #[.val (.int p1), .val (.long q2), .second, .val (.long q3), .second, .val (.long q4), .second, .val (.long q5), .second, .val (.int (p1 &&& (65535 : Int32)).toUInt32.toUInt16.toUInt32.toInt32), .val (.int (1 : Int32)), .unset, .unset, .unset, .unset, .unset, .unset] [])) _
    refine XS.iload X0.here hx rfl (hb hby at_10) rfl ?_
    show Steps p.tables e below (s₁.setTop (mkF m 12 #[.val (.int p1), .val (.long q2), .second, .val (.long q3), .second, .val (.long q4), .second, .val (.long q5), .second, .val (.int (p1 &&& (65535 : Int32)).toUInt32.toUInt16.toUInt32.toInt32), .val (.int (1 : Int32)), .unset, .unset, .unset, .unset, .unset, .unset] [(.int (p1 &&& (65535 : Int32)).toUInt32.toUInt16.toUInt32.toInt32)])) _
    refine XS.bipush X0.here hx rfl (hb hby at_12) ?_
    show Steps p.tables e below (s₁.setTop (mkF m 14 #[.val (.int p1), .val (.long q2), .second, .val (.long q3), .second, .val (.long q4), .second, .val (.long q5), .second, .val (.int (p1 &&& (65535 : Int32)).toUInt32.toUInt16.toUInt32.toInt32), .val (.int (1 : Int32)), .unset, .unset, .unset, .unset, .unset, .unset] [(.int (90 : Int32)), (.int (p1 &&& (65535 : Int32)).toUInt32.toUInt16.toUInt32.toInt32)])) _
    by_cases hs14 : (p1 &&& (65535 : Int32)).toUInt32.toUInt16.toUInt32.toInt32 = (90 : Int32)
    · rw [if_pos hs14] at k
      refine XS.icmpNo X0.here hx rfl (hb hby at_14) rfl (XT.ii_ne_f hs14) ?_
      show Steps p.tables e below (s₁.setTop (mkF m 17 #[.val (.int p1), .val (.long q2), .second, .val (.long q3), .second, .val (.long q4), .second, .val (.long q5), .second, .val (.int (p1 &&& (65535 : Int32)).toUInt32.toUInt16.toUInt32.toInt32), .val (.int (1 : Int32)), .unset, .unset, .unset, .unset, .unset, .unset] [])) _
      refine XS.iconst X0.here hx rfl (hb hby at_17) ?_
      show Steps p.tables e below (s₁.setTop (mkF m 18 #[.val (.int p1), .val (.long q2), .second, .val (.long q3), .second, .val (.long q4), .second, .val (.long q5), .second, .val (.int (p1 &&& (65535 : Int32)).toUInt32.toUInt16.toUInt32.toInt32), .val (.int (1 : Int32)), .unset, .unset, .unset, .unset, .unset, .unset] [(.int (0 : Int32))])) _
      refine XS.istore X0.here hx rfl (hb hby at_18) rfl (l' := #[.val (.int p1), .val (.long q2), .second, .val (.long q3), .second, .val (.long q4), .second, .val (.long q5), .second, .val (.int (p1 &&& (65535 : Int32)).toUInt32.toUInt16.toUInt32.toInt32), .val (.int (0 : Int32)), .unset, .unset, .unset, .unset, .unset, .unset]) rfl ?_
      show Steps p.tables e below (s₁.setTop (mkF m 20 #[.val (.int p1), .val (.long q2), .second, .val (.long q3), .second, .val (.long q4), .second, .val (.long q5), .second, .val (.int (p1 &&& (65535 : Int32)).toUInt32.toUInt16.toUInt32.toInt32), .val (.int (0 : Int32)), .unset, .unset, .unset, .unset, .unset, .unset] [])) _
      refine XS.iload X0.here hx rfl (hb hby at_20) rfl ?_
      show Steps p.tables e below (s₁.setTop (mkF m 22 #[.val (.int p1), .val (.long q2), .second, .val (.long q3), .second, .val (.long q4), .second, .val (.long q5), .second, .val (.int (p1 &&& (65535 : Int32)).toUInt32.toUInt16.toUInt32.toInt32), .val (.int (0 : Int32)), .unset, .unset, .unset, .unset, .unset, .unset] [(.int (p1 &&& (65535 : Int32)).toUInt32.toUInt16.toUInt32.toInt32)])) _
      refine XS.bipush X0.here hx rfl (hb hby at_22) ?_
      show Steps p.tables e below (s₁.setTop (mkF m 24 #[.val (.int p1), .val (.long q2), .second, .val (.long q3), .second, .val (.long q4), .second, .val (.long q5), .second, .val (.int (p1 &&& (65535 : Int32)).toUInt32.toUInt16.toUInt32.toInt32), .val (.int (0 : Int32)), .unset, .unset, .unset, .unset, .unset, .unset] [(.int (88 : Int32)), (.int (p1 &&& (65535 : Int32)).toUInt32.toUInt16.toUInt32.toInt32)])) _
      by_cases hs24 : (p1 &&& (65535 : Int32)).toUInt32.toUInt16.toUInt32.toInt32 = (88 : Int32)
      · rw [if_pos hs24] at k
        refine XS.icmpNo X0.here hx rfl (hb hby at_24) rfl (XT.ii_ne_f hs24) ?_
        show Steps p.tables e below (s₁.setTop (mkF m 27 #[.val (.int p1), .val (.long q2), .second, .val (.long q3), .second, .val (.long q4), .second, .val (.long q5), .second, .val (.int (p1 &&& (65535 : Int32)).toUInt32.toUInt16.toUInt32.toInt32), .val (.int (0 : Int32)), .unset, .unset, .unset, .unset, .unset, .unset] [])) _
        refine XS.iconst X0.here hx rfl (hb hby at_27) ?_
        show Steps p.tables e below (s₁.setTop (mkF m 28 #[.val (.int p1), .val (.long q2), .second, .val (.long q3), .second, .val (.long q4), .second, .val (.long q5), .second, .val (.int (p1 &&& (65535 : Int32)).toUInt32.toUInt16.toUInt32.toInt32), .val (.int (0 : Int32)), .unset, .unset, .unset, .unset, .unset, .unset] [(.int (0 : Int32))])) _
        refine XS.istore X0.here hx rfl (hb hby at_28) rfl (l' := #[.val (.int p1), .val (.long q2), .second, .val (.long q3), .second, .val (.long q4), .second, .val (.long q5), .second, .val (.int (p1 &&& (65535 : Int32)).toUInt32.toUInt16.toUInt32.toInt32), .val (.int (0 : Int32)), .unset, .unset, .unset, .unset, .unset, .unset]) rfl ?_
        exact k
      · rw [if_neg hs24] at k
        refine XS.icmpYes X0.here hx rfl (pc0 := 24) (pc' := 30) rfl (hb hby at_24) rfl (XT.ii_ne_t hs24) (by decide) (by decide) ?_
        exact k
    · rw [if_neg hs14] at k
      refine XS.icmpYes X0.here hx rfl (pc0 := 14) (pc' := 20) rfl (hb hby at_14) rfl (XT.ii_ne_t hs14) (by decide) (by decide) ?_
      show Steps p.tables e below (s₁.setTop (mkF m 20 #[.val (.int p1), .val (.long q2), .second, .val (.long q3), .second, .val (.long q4), .second, .val (.long q5), .second, .val (.int (p1 &&& (65535 : Int32)).toUInt32.toUInt16.toUInt32.toInt32), .val (.int (1 : Int32)), .unset, .unset, .unset, .unset, .unset, .unset] [])) _
      refine XS.iload X0.here hx rfl (hb hby at_20) rfl ?_
      show Steps p.tables e below (s₁.setTop (mkF m 22 #[.val (.int p1), .val (.long q2), .second, .val (.long q3), .second, .val (.long q4), .second, .val (.long q5), .second, .val (.int (p1 &&& (65535 : Int32)).toUInt32.toUInt16.toUInt32.toInt32), .val (.int (1 : Int32)), .unset, .unset, .unset, .unset, .unset, .unset] [(.int (p1 &&& (65535 : Int32)).toUInt32.toUInt16.toUInt32.toInt32)])) _
      refine XS.bipush X0.here hx rfl (hb hby at_22) ?_
      show Steps p.tables e below (s₁.setTop (mkF m 24 #[.val (.int p1), .val (.long q2), .second, .val (.long q3), .second, .val (.long q4), .second, .val (.long q5), .second, .val (.int (p1 &&& (65535 : Int32)).toUInt32.toUInt16.toUInt32.toInt32), .val (.int (1 : Int32)), .unset, .unset, .unset, .unset, .unset, .unset] [(.int (88 : Int32)), (.int (p1 &&& (65535 : Int32)).toUInt32.toUInt16.toUInt32.toInt32)])) _
      by_cases hs24 : (p1 &&& (65535 : Int32)).toUInt32.toUInt16.toUInt32.toInt32 = (88 : Int32)
      · rw [if_pos hs24] at k
        refine XS.icmpNo X0.here hx rfl (hb hby at_24) rfl (XT.ii_ne_f hs24) ?_
        show Steps p.tables e below (s₁.setTop (mkF m 27 #[.val (.int p1), .val (.long q2), .second, .val (.long q3), .second, .val (.long q4), .second, .val (.long q5), .second, .val (.int (p1 &&& (65535 : Int32)).toUInt32.toUInt16.toUInt32.toInt32), .val (.int (1 : Int32)), .unset, .unset, .unset, .unset, .unset, .unset] [])) _
        refine XS.iconst X0.here hx rfl (hb hby at_27) ?_
        show Steps p.tables e below (s₁.setTop (mkF m 28 #[.val (.int p1), .val (.long q2), .second, .val (.long q3), .second, .val (.long q4), .second, .val (.long q5), .second, .val (.int (p1 &&& (65535 : Int32)).toUInt32.toUInt16.toUInt32.toInt32), .val (.int (1 : Int32)), .unset, .unset, .unset, .unset, .unset, .unset] [(.int (0 : Int32))])) _
        refine XS.istore X0.here hx rfl (hb hby at_28) rfl (l' := #[.val (.int p1), .val (.long q2), .second, .val (.long q3), .second, .val (.long q4), .second, .val (.long q5), .second, .val (.int (p1 &&& (65535 : Int32)).toUInt32.toUInt16.toUInt32.toInt32), .val (.int (0 : Int32)), .unset, .unset, .unset, .unset, .unset, .unset]) rfl ?_
        exact k
      · rw [if_neg hs24] at k
        refine XS.icmpYes X0.here hx rfl (pc0 := 24) (pc' := 30) rfl (hb hby at_24) rfl (XT.ii_ne_t hs24) (by decide) (by decide) ?_
        exact k
  refine OGo.st st1 ?_
  show OGo p.tables e below _ (s₁.setTop (mkF m 30 #[.val (.int p1), .val (.long q2), .second, .val (.long q3), .second, .val (.long q4), .second, .val (.long q5), .second, .val (.int (p1 &&& (65535 : Int32)).toUInt32.toUInt16.toUInt32.toInt32), .val (.int vx), .unset, .unset, .unset, .unset, .unset, .unset] []))
  obtain ⟨T2, hz2, X2, ez2, Ez2, Az2, Dz2, -, st2⟩ := newO X0 hx hZ hown (hw _ (List.mem_of_getElem? (i := 1) rfl)) (hw _ (List.mem_of_getElem? (i := 2) rfl)) (hw _ (List.mem_of_getElem? (i := 3) rfl)) e0 (g := (mkF m 30 #[.val (.int p1), .val (.long q2), .second, .val (.long q3), .second, .val (.long q4), .second, .val (.long q5), .second, .val (.int (p1 &&& (65535 : Int32)).toUInt32.toUInt16.toUInt32.toInt32), .val (.int vx), .unset, .unset, .unset, .unset, .unset, .unset] [])) rfl (hb hby at_30) (by decide) (by decide)
  obtain ⟨bz2, g2⟩ : ∃ z, z = h0.size := ⟨_, rfl⟩
  rw [← g2] at Az2 Dz2 st2
  have g_bz2 : n0 ≤ bz2 := Nat.le_trans (Nat.le_trans Z0 (Keep.refl h0 []).1) (Nat.le_of_eq g2.symm)
  have sz_bz2 : h0.size ≤ bz2 := Nat.le_trans (Keep.refl h0 []).1 (Nat.le_of_eq g2.symm)
  have K_3 : Keep h0 hz2 [] := (Keep.refl h0 []).ext Ez2
  have F_process_2 : Fld Z hz2 bz2 "com/example/weaverbird/weaverbird/server/ProcessStat" "process" "J" (.long (0 : Int64)) := Dz2 (Or.inr (hw _ (List.mem_of_getElem? (i := 16) rfl))) (ty := .long) (by decide)
  have F_state_2 : Fld Z hz2 bz2 "com/example/weaverbird/weaverbird/server/ProcessStat" "state" "C" (.int (0 : Int32)) := Dz2 (Or.inr (hw _ (List.mem_of_getElem? (i := 18) rfl))) (ty := .char) (by decide)
  have F_parent_2 : Fld Z hz2 bz2 "com/example/weaverbird/weaverbird/server/ProcessStat" "parent" "J" (.long (0 : Int64)) := Dz2 (Or.inr (hw _ (List.mem_of_getElem? (i := 20) rfl))) (ty := .long) (by decide)
  have F_started_2 : Fld Z hz2 bz2 "com/example/weaverbird/weaverbird/server/ProcessStat" "started" "J" (.long (0 : Int64)) := Dz2 (Or.inr (hw _ (List.mem_of_getElem? (i := 22) rfl))) (ty := .long) (by decide)
  refine OGo.st st2 ?_
  show OGo p.tables e below _ (T2.setTop (mkF m 33 #[.val (.int p1), .val (.long q2), .second, .val (.long q3), .second, .val (.long q4), .second, .val (.long q5), .second, .val (.int (p1 &&& (65535 : Int32)).toUInt32.toUInt16.toUInt32.toInt32), .val (.int vx), .unset, .unset, .unset, .unset, .unset, .unset] [(.ref bz2)]))
  refine OGo.st (fun _ k_ => XS.dup X2.here hx rfl (hb hby at_33) rfl rfl k_) ?_
  show OGo p.tables e below _ (T2.setTop (mkF m 34 #[.val (.int p1), .val (.long q2), .second, .val (.long q3), .second, .val (.long q4), .second, .val (.long q5), .second, .val (.int (p1 &&& (65535 : Int32)).toUInt32.toUInt16.toUInt32.toInt32), .val (.int vx), .unset, .unset, .unset, .unset, .unset, .unset] [(.ref bz2), (.ref bz2)]))
  refine OGo.st (fun _ k_ => XS.lloadN X2.here hx rfl (hb hby at_34) rfl k_) ?_
  show OGo p.tables e below _ (T2.setTop (mkF m 35 #[.val (.int p1), .val (.long q2), .second, .val (.long q3), .second, .val (.long q4), .second, .val (.long q5), .second, .val (.int (p1 &&& (65535 : Int32)).toUInt32.toUInt16.toUInt32.toInt32), .val (.int vx), .unset, .unset, .unset, .unset, .unset, .unset] [(.long q2), (.ref bz2), (.ref bz2)]))
  refine OGo.st (fun _ k_ => XS.iload X2.here hx rfl (hb hby at_35) rfl k_) ?_
  show OGo p.tables e below _ (T2.setTop (mkF m 37 #[.val (.int p1), .val (.long q2), .second, .val (.long q3), .second, .val (.long q4), .second, .val (.long q5), .second, .val (.int (p1 &&& (65535 : Int32)).toUInt32.toUInt16.toUInt32.toInt32), .val (.int vx), .unset, .unset, .unset, .unset, .unset, .unset] [(.int (p1 &&& (65535 : Int32)).toUInt32.toUInt16.toUInt32.toInt32), (.long q2), (.ref bz2), (.ref bz2)]))
  refine OGo.st (fun _ k_ => XS.lloadN X2.here hx rfl (hb hby at_37) rfl k_) ?_
  show OGo p.tables e below _ (T2.setTop (mkF m 38 #[.val (.int p1), .val (.long q2), .second, .val (.long q3), .second, .val (.long q4), .second, .val (.long q5), .second, .val (.int (p1 &&& (65535 : Int32)).toUInt32.toUInt16.toUInt32.toInt32), .val (.int vx), .unset, .unset, .unset, .unset, .unset, .unset] [(.long q3), (.int (p1 &&& (65535 : Int32)).toUInt32.toUInt16.toUInt32.toInt32), (.long q2), (.ref bz2), (.ref bz2)]))
  refine OGo.st (fun _ k_ => XS.lload X2.here hx rfl (hb hby at_38) rfl k_) ?_
  show OGo p.tables e below _ (T2.setTop (mkF m 40 #[.val (.int p1), .val (.long q2), .second, .val (.long q3), .second, .val (.long q4), .second, .val (.long q5), .second, .val (.int (p1 &&& (65535 : Int32)).toUInt32.toUInt16.toUInt32.toInt32), .val (.int vx), .unset, .unset, .unset, .unset, .unset, .unset] [(.long q4), (.long q3), (.int (p1 &&& (65535 : Int32)).toUInt32.toUInt16.toUInt32.toInt32), (.long q2), (.ref bz2), (.ref bz2)]))
  obtain ⟨_, _, ⟨T4, Lz4, kz4, nz4⟩, -, X4, ⟨Lc4, hQ4, lz4, yz4, zz4⟩, st4⟩ := X2.specialBack hx (y := (⟨"com/example/weaverbird/weaverbird/server/ProcessStat", "<init>", "(JCJJ)V"⟩ : MethodName)) rfl hown (mvT hZ (hw _ (List.mem_of_getElem? (i := 4) rfl))) (mvT hZ (hw _ (List.mem_of_getElem? (i := 5) rfl))) (mvT hZ (hw _ (List.mem_of_getElem? (i := 6) rfl))) (by decide) (backOf (W := 1) (rm1 l Z a0 hw [] bz2 q2 (p1 &&& (65535 : Int32)).toUInt32.toUInt16.toUInt32.toInt32 q3 q4 hz2 n0 (Nat.le_trans Z0 K_3.1) Az2 F_process_2 F_state_2 F_parent_2 F_started_2 g_bz2) hZ (hw _ (List.mem_of_getElem? (i := 6) rfl)) (hw _ (List.mem_of_getElem? (i := 3) rfl)) (by decide) (by decide)) (g := (mkF m 40 #[.val (.int p1), .val (.long q2), .second, .val (.long q3), .second, .val (.long q4), .second, .val (.long q5), .second, .val (.int (p1 &&& (65535 : Int32)).toUInt32.toUInt16.toUInt32.toInt32), .val (.int vx), .unset, .unset, .unset, .unset, .unset, .unset] [(.long q4), (.long q3), (.int (p1 &&& (65535 : Int32)).toUInt32.toUInt16.toUInt32.toInt32), (.long q2), (.ref bz2), (.ref bz2)])) rfl (by rw [hml]; rfl) (Steps.refl _) (a := bz2) (argsL := [(.long q2), (.int (p1 &&& (65535 : Int32)).toUInt32.toUInt16.toUInt32.toInt32), (.long q3), (.long q4)]) (rest := [(.ref bz2)]) (lenOf own_pd1 rfl) rfl (by show 2 * 0 + _ ≤ _; exact Nat.le_of_eq rfl) (hb hby at_40) (fun _ _ => ⟨rfl, ez2, (by decide : 1 + 0 ≤ _), (by decide : 4 + 0 ≤ _)⟩)
  dsimp only [Pt.U, Pt.locs, Pt.cells, Pt.slots] at X4 lz4 yz4 zz4 st4 hQ4
  subst lz4 yz4 zz4
  obtain ⟨rfl, Nq4, Kq4, qz4_0⟩ := hQ4
  have N4 := Fr.app N0 Nq4
  have Ex_5 := Az2.keep Kq4
  have K_6 : Keep h0 T4.heap [] := K_3.trans Kq4 (allS (Or.inr sz_bz2) all0)
  refine OGo.tr st4 ?_
  show OGo p.tables e below _ (T4.setTop (mkF m 43 #[.val (.int p1), .val (.long q2), .second, .val (.long q3), .second, .val (.long q4), .second, .val (.long q5), .second, .val (.int (p1 &&& (65535 : Int32)).toUInt32.toUInt16.toUInt32.toInt32), .val (.int vx), .unset, .unset, .unset, .unset, .unset, .unset] [(.ref bz2)]))
  refine OGo.st (fun _ k_ => XS.astore X4.here hx rfl (hb hby at_43) rfl rfl (l' := #[.val (.int p1), .val (.long q2), .second, .val (.long q3), .second, .val (.long q4), .second, .val (.long q5), .second, .val (.int (p1 &&& (65535 : Int32)).toUInt32.toUInt16.toUInt32.toInt32), .val (.int vx), .val (.ref bz2), .unset, .unset, .unset, .unset, .unset]) rfl k_) ?_
  show OGo p.tables e below _ (T4.setTop (mkF m 45 #[.val (.int p1), .val (.long q2), .second, .val (.long q3), .second, .val (.long q4), .second, .val (.long q5), .second, .val (.int (p1 &&& (65535 : Int32)).toUInt32.toUInt16.toUInt32.toInt32), .val (.int vx), .val (.ref bz2), .unset, .unset, .unset, .unset, .unset] []))
  obtain ⟨T7, hz7, X7, ez7, Ez7, Az7, Dz7, -, st7⟩ := newO X4 hx hZ hown (hw _ (List.mem_of_getElem? (i := 1) rfl)) (hw _ (List.mem_of_getElem? (i := 2) rfl)) (hw _ (List.mem_of_getElem? (i := 3) rfl)) rfl (g := (mkF m 45 #[.val (.int p1), .val (.long q2), .second, .val (.long q3), .second, .val (.long q4), .second, .val (.long q5), .second, .val (.int (p1 &&& (65535 : Int32)).toUInt32.toUInt16.toUInt32.toInt32), .val (.int vx), .val (.ref bz2), .unset, .unset, .unset, .unset, .unset] [])) rfl (hb hby at_45) (by decide) (by decide)
  obtain ⟨bz7, g7⟩ : ∃ z, z = T4.heap.size := ⟨_, rfl⟩
  rw [← g7] at Az7 Dz7 st7
  have lt_bz2_bz7 : bz2 < bz7 := Nat.lt_of_lt_of_le Ex_5.lt (Nat.le_of_eq g7.symm)
  have g_bz7 : n0 ≤ bz7 := Nat.le_trans (Nat.le_trans Z0 K_6.1) (Nat.le_of_eq g7.symm)
  have sz_bz7 : h0.size ≤ bz7 := Nat.le_trans K_6.1 (Nat.le_of_eq g7.symm)
  have Ex_8 := Ex_5.ext Ez7
  have F_9 := qz4_0.ext Ez7
  have K_10 : Keep h0 hz7 [] := K_6.ext Ez7
  have F_process_7 : Fld Z hz7 bz7 "com/example/weaverbird/weaverbird/server/ProcessStat" "process" "J" (.long (0 : Int64)) := Dz7 (Or.inr (hw _ (List.mem_of_getElem? (i := 16) rfl))) (ty := .long) (by decide)
  have F_state_7 : Fld Z hz7 bz7 "com/example/weaverbird/weaverbird/server/ProcessStat" "state" "C" (.int (0 : Int32)) := Dz7 (Or.inr (hw _ (List.mem_of_getElem? (i := 18) rfl))) (ty := .char) (by decide)
  have F_parent_7 : Fld Z hz7 bz7 "com/example/weaverbird/weaverbird/server/ProcessStat" "parent" "J" (.long (0 : Int64)) := Dz7 (Or.inr (hw _ (List.mem_of_getElem? (i := 20) rfl))) (ty := .long) (by decide)
  have F_started_7 : Fld Z hz7 bz7 "com/example/weaverbird/weaverbird/server/ProcessStat" "started" "J" (.long (0 : Int64)) := Dz7 (Or.inr (hw _ (List.mem_of_getElem? (i := 22) rfl))) (ty := .long) (by decide)
  refine OGo.st st7 ?_
  show OGo p.tables e below _ (T7.setTop (mkF m 48 #[.val (.int p1), .val (.long q2), .second, .val (.long q3), .second, .val (.long q4), .second, .val (.long q5), .second, .val (.int (p1 &&& (65535 : Int32)).toUInt32.toUInt16.toUInt32.toInt32), .val (.int vx), .val (.ref bz2), .unset, .unset, .unset, .unset, .unset] [(.ref bz7)]))
  refine OGo.st (fun _ k_ => XS.dup X7.here hx rfl (hb hby at_48) rfl rfl k_) ?_
  show OGo p.tables e below _ (T7.setTop (mkF m 49 #[.val (.int p1), .val (.long q2), .second, .val (.long q3), .second, .val (.long q4), .second, .val (.long q5), .second, .val (.int (p1 &&& (65535 : Int32)).toUInt32.toUInt16.toUInt32.toInt32), .val (.int vx), .val (.ref bz2), .unset, .unset, .unset, .unset, .unset] [(.ref bz7), (.ref bz7)]))
  refine OGo.st (fun _ k_ => XS.lload X7.here hx rfl (hb hby at_49) rfl k_) ?_
  show OGo p.tables e below _ (T7.setTop (mkF m 51 #[.val (.int p1), .val (.long q2), .second, .val (.long q3), .second, .val (.long q4), .second, .val (.long q5), .second, .val (.int (p1 &&& (65535 : Int32)).toUInt32.toUInt16.toUInt32.toInt32), .val (.int vx), .val (.ref bz2), .unset, .unset, .unset, .unset, .unset] [(.long q5), (.ref bz7), (.ref bz7)]))
  refine OGo.st (fun _ k_ => XS.iload X7.here hx rfl (hb hby at_51) rfl k_) ?_
  show OGo p.tables e below _ (T7.setTop (mkF m 53 #[.val (.int p1), .val (.long q2), .second, .val (.long q3), .second, .val (.long q4), .second, .val (.long q5), .second, .val (.int (p1 &&& (65535 : Int32)).toUInt32.toUInt16.toUInt32.toInt32), .val (.int vx), .val (.ref bz2), .unset, .unset, .unset, .unset, .unset] [(.int (p1 &&& (65535 : Int32)).toUInt32.toUInt16.toUInt32.toInt32), (.long q5), (.ref bz7), (.ref bz7)]))
  refine OGo.st (fun _ k_ => XS.lload X7.here hx rfl (hb hby at_53) rfl k_) ?_
  show OGo p.tables e below _ (T7.setTop (mkF m 55 #[.val (.int p1), .val (.long q2), .second, .val (.long q3), .second, .val (.long q4), .second, .val (.long q5), .second, .val (.int (p1 &&& (65535 : Int32)).toUInt32.toUInt16.toUInt32.toInt32), .val (.int vx), .val (.ref bz2), .unset, .unset, .unset, .unset, .unset] [(.long q4), (.int (p1 &&& (65535 : Int32)).toUInt32.toUInt16.toUInt32.toInt32), (.long q5), (.ref bz7), (.ref bz7)]))
  refine OGo.st (fun _ k_ => XS.lloadN X7.here hx rfl (hb hby at_55) rfl k_) ?_
  show OGo p.tables e below _ (T7.setTop (mkF m 56 #[.val (.int p1), .val (.long q2), .second, .val (.long q3), .second, .val (.long q4), .second, .val (.long q5), .second, .val (.int (p1 &&& (65535 : Int32)).toUInt32.toUInt16.toUInt32.toInt32), .val (.int vx), .val (.ref bz2), .unset, .unset, .unset, .unset, .unset] [(.long q3), (.long q4), (.int (p1 &&& (65535 : Int32)).toUInt32.toUInt16.toUInt32.toInt32), (.long q5), (.ref bz7), (.ref bz7)]))
  obtain ⟨_, _, ⟨T11, Lz11, kz11, nz11⟩, -, X11, ⟨Lc11, hQ11, lz11, yz11, zz11⟩, st11⟩ := X7.specialBack hx (y := (⟨"com/example/weaverbird/weaverbird/server/ProcessStat", "<init>", "(JCJJ)V"⟩ : MethodName)) rfl hown (mvT hZ (hw _ (List.mem_of_getElem? (i := 4) rfl))) (mvT hZ (hw _ (List.mem_of_getElem? (i := 5) rfl))) (mvT hZ (hw _ (List.mem_of_getElem? (i := 6) rfl))) (by decide) (backOf (W := 1) (rm1 l Z a0 hw [] bz7 q5 (p1 &&& (65535 : Int32)).toUInt32.toUInt16.toUInt32.toInt32 q4 q3 hz7 n0 (Nat.le_trans Z0 K_10.1) Az7 F_process_7 F_state_7 F_parent_7 F_started_7 g_bz7) hZ (hw _ (List.mem_of_getElem? (i := 6) rfl)) (hw _ (List.mem_of_getElem? (i := 3) rfl)) (by decide) (by decide)) (g := (mkF m 56 #[.val (.int p1), .val (.long q2), .second, .val (.long q3), .second, .val (.long q4), .second, .val (.long q5), .second, .val (.int (p1 &&& (65535 : Int32)).toUInt32.toUInt16.toUInt32.toInt32), .val (.int vx), .val (.ref bz2), .unset, .unset, .unset, .unset, .unset] [(.long q3), (.long q4), (.int (p1 &&& (65535 : Int32)).toUInt32.toUInt16.toUInt32.toInt32), (.long q5), (.ref bz7), (.ref bz7)])) rfl (by rw [hml]; rfl) (Steps.refl _) (a := bz7) (argsL := [(.long q5), (.int (p1 &&& (65535 : Int32)).toUInt32.toUInt16.toUInt32.toInt32), (.long q4), (.long q3)]) (rest := [(.ref bz7)]) (lenOf own_pd1 rfl) rfl (by show 2 * 0 + _ ≤ _; exact Nat.le_of_eq rfl) (hb hby at_56) (fun _ _ => ⟨rfl, ez7, (by decide : 2 + 0 ≤ _), (by decide : 8 + 0 ≤ _)⟩)
  dsimp only [Pt.U, Pt.locs, Pt.cells, Pt.slots] at X11 lz11 yz11 zz11 st11 hQ11
  subst lz11 yz11 zz11
  obtain ⟨rfl, Nq11, Kq11, qz11_0⟩ := hQ11
  have N11 := Fr.app N4 Nq11
  have Ex_12 := Ex_8.keep Kq11
  have F_13 := F_9.keep Kq11 (ninS (Nat.ne_of_lt lt_bz2_bz7) nin0)
  have Ex_14 := Az7.keep Kq11
  have K_15 : Keep h0 T11.heap [] := K_10.trans Kq11 (allS (Or.inr sz_bz7) all0)
  refine OGo.tr st11 ?_
  show OGo p.tables e below _ (T11.setTop (mkF m 59 #[.val (.int p1), .val (.long q2), .second, .val (.long q3), .second, .val (.long q4), .second, .val (.long q5), .second, .val (.int (p1 &&& (65535 : Int32)).toUInt32.toUInt16.toUInt32.toInt32), .val (.int vx), .val (.ref bz2), .unset, .unset, .unset, .unset, .unset] [(.ref bz7)]))
  refine OGo.st (fun _ k_ => XS.astore X11.here hx rfl (hb hby at_59) rfl rfl (l' := #[.val (.int p1), .val (.long q2), .second, .val (.long q3), .second, .val (.long q4), .second, .val (.long q5), .second, .val (.int (p1 &&& (65535 : Int32)).toUInt32.toUInt16.toUInt32.toInt32), .val (.int vx), .val (.ref bz2), .val (.ref bz7), .unset, .unset, .unset, .unset]) rfl k_) ?_
  show OGo p.tables e below _ (T11.setTop (mkF m 61 #[.val (.int p1), .val (.long q2), .second, .val (.long q3), .second, .val (.long q4), .second, .val (.long q5), .second, .val (.int (p1 &&& (65535 : Int32)).toUInt32.toUInt16.toUInt32.toInt32), .val (.int vx), .val (.ref bz2), .val (.ref bz7), .unset, .unset, .unset, .unset] []))
  obtain ⟨T16, hz16, X16, ez16, Ez16, Az16, Dz16, -, st16⟩ := newO X11 hx hZ hown (hw _ (List.mem_of_getElem? (i := 1) rfl)) (hw _ (List.mem_of_getElem? (i := 2) rfl)) (hw _ (List.mem_of_getElem? (i := 3) rfl)) rfl (g := (mkF m 61 #[.val (.int p1), .val (.long q2), .second, .val (.long q3), .second, .val (.long q4), .second, .val (.long q5), .second, .val (.int (p1 &&& (65535 : Int32)).toUInt32.toUInt16.toUInt32.toInt32), .val (.int vx), .val (.ref bz2), .val (.ref bz7), .unset, .unset, .unset, .unset] [])) rfl (hb hby at_61) (by decide) (by decide)
  obtain ⟨bz16, g16⟩ : ∃ z, z = T11.heap.size := ⟨_, rfl⟩
  rw [← g16] at Az16 Dz16 st16
  have lt_bz2_bz16 : bz2 < bz16 := Nat.lt_of_lt_of_le Ex_12.lt (Nat.le_of_eq g16.symm)
  have lt_bz7_bz16 : bz7 < bz16 := Nat.lt_of_lt_of_le Ex_14.lt (Nat.le_of_eq g16.symm)
  have g_bz16 : n0 ≤ bz16 := Nat.le_trans (Nat.le_trans Z0 K_15.1) (Nat.le_of_eq g16.symm)
  have sz_bz16 : h0.size ≤ bz16 := Nat.le_trans K_15.1 (Nat.le_of_eq g16.symm)
  have Ex_17 := Ex_12.ext Ez16
  have F_18 := F_13.ext Ez16
  have Ex_19 := Ex_14.ext Ez16
  have F_20 := qz11_0.ext Ez16
  have K_21 : Keep h0 hz16 [] := K_15.ext Ez16
  have F_process_16 : Fld Z hz16 bz16 "com/example/weaverbird/weaverbird/server/ProcessStat" "process" "J" (.long (0 : Int64)) := Dz16 (Or.inr (hw _ (List.mem_of_getElem? (i := 16) rfl))) (ty := .long) (by decide)
  have F_state_16 : Fld Z hz16 bz16 "com/example/weaverbird/weaverbird/server/ProcessStat" "state" "C" (.int (0 : Int32)) := Dz16 (Or.inr (hw _ (List.mem_of_getElem? (i := 18) rfl))) (ty := .char) (by decide)
  have F_parent_16 : Fld Z hz16 bz16 "com/example/weaverbird/weaverbird/server/ProcessStat" "parent" "J" (.long (0 : Int64)) := Dz16 (Or.inr (hw _ (List.mem_of_getElem? (i := 20) rfl))) (ty := .long) (by decide)
  have F_started_16 : Fld Z hz16 bz16 "com/example/weaverbird/weaverbird/server/ProcessStat" "started" "J" (.long (0 : Int64)) := Dz16 (Or.inr (hw _ (List.mem_of_getElem? (i := 22) rfl))) (ty := .long) (by decide)
  refine OGo.st st16 ?_
  show OGo p.tables e below _ (T16.setTop (mkF m 64 #[.val (.int p1), .val (.long q2), .second, .val (.long q3), .second, .val (.long q4), .second, .val (.long q5), .second, .val (.int (p1 &&& (65535 : Int32)).toUInt32.toUInt16.toUInt32.toInt32), .val (.int vx), .val (.ref bz2), .val (.ref bz7), .unset, .unset, .unset, .unset] [(.ref bz16)]))
  refine OGo.st (fun _ k_ => XS.dup X16.here hx rfl (hb hby at_64) rfl rfl k_) ?_
  show OGo p.tables e below _ (T16.setTop (mkF m 65 #[.val (.int p1), .val (.long q2), .second, .val (.long q3), .second, .val (.long q4), .second, .val (.long q5), .second, .val (.int (p1 &&& (65535 : Int32)).toUInt32.toUInt16.toUInt32.toInt32), .val (.int vx), .val (.ref bz2), .val (.ref bz7), .unset, .unset, .unset, .unset] [(.ref bz16), (.ref bz16)]))
  refine OGo.st (fun _ k_ => XS.lloadN X16.here hx rfl (hb hby at_65) rfl k_) ?_
  show OGo p.tables e below _ (T16.setTop (mkF m 66 #[.val (.int p1), .val (.long q2), .second, .val (.long q3), .second, .val (.long q4), .second, .val (.long q5), .second, .val (.int (p1 &&& (65535 : Int32)).toUInt32.toUInt16.toUInt32.toInt32), .val (.int vx), .val (.ref bz2), .val (.ref bz7), .unset, .unset, .unset, .unset] [(.long q2), (.ref bz16), (.ref bz16)]))
  refine OGo.st (fun _ k_ => XS.bipush X16.here hx rfl (hb hby at_66) k_) ?_
  show OGo p.tables e below _ (T16.setTop (mkF m 68 #[.val (.int p1), .val (.long q2), .second, .val (.long q3), .second, .val (.long q4), .second, .val (.long q5), .second, .val (.int (p1 &&& (65535 : Int32)).toUInt32.toUInt16.toUInt32.toInt32), .val (.int vx), .val (.ref bz2), .val (.ref bz7), .unset, .unset, .unset, .unset] [(.int (90 : Int32)), (.long q2), (.ref bz16), (.ref bz16)]))
  refine OGo.st (fun _ k_ => XS.lloadN X16.here hx rfl (hb hby at_68) rfl k_) ?_
  show OGo p.tables e below _ (T16.setTop (mkF m 69 #[.val (.int p1), .val (.long q2), .second, .val (.long q3), .second, .val (.long q4), .second, .val (.long q5), .second, .val (.int (p1 &&& (65535 : Int32)).toUInt32.toUInt16.toUInt32.toInt32), .val (.int vx), .val (.ref bz2), .val (.ref bz7), .unset, .unset, .unset, .unset] [(.long q3), (.int (90 : Int32)), (.long q2), (.ref bz16), (.ref bz16)]))
  refine OGo.st (fun _ k_ => XS.lload X16.here hx rfl (hb hby at_69) rfl k_) ?_
  show OGo p.tables e below _ (T16.setTop (mkF m 71 #[.val (.int p1), .val (.long q2), .second, .val (.long q3), .second, .val (.long q4), .second, .val (.long q5), .second, .val (.int (p1 &&& (65535 : Int32)).toUInt32.toUInt16.toUInt32.toInt32), .val (.int vx), .val (.ref bz2), .val (.ref bz7), .unset, .unset, .unset, .unset] [(.long q4), (.long q3), (.int (90 : Int32)), (.long q2), (.ref bz16), (.ref bz16)]))
  obtain ⟨_, _, ⟨T22, Lz22, kz22, nz22⟩, -, X22, ⟨Lc22, hQ22, lz22, yz22, zz22⟩, st22⟩ := X16.specialBack hx (y := (⟨"com/example/weaverbird/weaverbird/server/ProcessStat", "<init>", "(JCJJ)V"⟩ : MethodName)) rfl hown (mvT hZ (hw _ (List.mem_of_getElem? (i := 4) rfl))) (mvT hZ (hw _ (List.mem_of_getElem? (i := 5) rfl))) (mvT hZ (hw _ (List.mem_of_getElem? (i := 6) rfl))) (by decide) (backOf (W := 1) (rm1 l Z a0 hw [] bz16 q2 (90 : Int32) q3 q4 hz16 n0 (Nat.le_trans Z0 K_21.1) Az16 F_process_16 F_state_16 F_parent_16 F_started_16 g_bz16) hZ (hw _ (List.mem_of_getElem? (i := 6) rfl)) (hw _ (List.mem_of_getElem? (i := 3) rfl)) (by decide) (by decide)) (g := (mkF m 71 #[.val (.int p1), .val (.long q2), .second, .val (.long q3), .second, .val (.long q4), .second, .val (.long q5), .second, .val (.int (p1 &&& (65535 : Int32)).toUInt32.toUInt16.toUInt32.toInt32), .val (.int vx), .val (.ref bz2), .val (.ref bz7), .unset, .unset, .unset, .unset] [(.long q4), (.long q3), (.int (90 : Int32)), (.long q2), (.ref bz16), (.ref bz16)])) rfl (by rw [hml]; rfl) (Steps.refl _) (a := bz16) (argsL := [(.long q2), (.int (90 : Int32)), (.long q3), (.long q4)]) (rest := [(.ref bz16)]) (lenOf own_pd1 rfl) rfl (by show 2 * 0 + _ ≤ _; exact Nat.le_of_eq rfl) (hb hby at_71) (fun _ _ => ⟨rfl, ez16, (by decide : 3 + 0 ≤ _), (by decide : 12 + 0 ≤ _)⟩)
  dsimp only [Pt.U, Pt.locs, Pt.cells, Pt.slots] at X22 lz22 yz22 zz22 st22 hQ22
  subst lz22 yz22 zz22
  obtain ⟨rfl, Nq22, Kq22, qz22_0⟩ := hQ22
  have N22 := Fr.app N11 Nq22
  have Ex_23 := Ex_17.keep Kq22
  have F_24 := F_18.keep Kq22 (ninS (Nat.ne_of_lt lt_bz2_bz16) nin0)
  have Ex_25 := Ex_19.keep Kq22
  have F_26 := F_20.keep Kq22 (ninS (Nat.ne_of_lt lt_bz7_bz16) nin0)
  have Ex_27 := Az16.keep Kq22
  have K_28 : Keep h0 T22.heap [] := K_21.trans Kq22 (allS (Or.inr sz_bz16) all0)
  refine OGo.tr st22 ?_
  show OGo p.tables e below _ (T22.setTop (mkF m 74 #[.val (.int p1), .val (.long q2), .second, .val (.long q3), .second, .val (.long q4), .second, .val (.long q5), .second, .val (.int (p1 &&& (65535 : Int32)).toUInt32.toUInt16.toUInt32.toInt32), .val (.int vx), .val (.ref bz2), .val (.ref bz7), .unset, .unset, .unset, .unset] [(.ref bz16)]))
  refine OGo.st (fun _ k_ => XS.astore X22.here hx rfl (hb hby at_74) rfl rfl (l' := #[.val (.int p1), .val (.long q2), .second, .val (.long q3), .second, .val (.long q4), .second, .val (.long q5), .second, .val (.int (p1 &&& (65535 : Int32)).toUInt32.toUInt16.toUInt32.toInt32), .val (.int vx), .val (.ref bz2), .val (.ref bz7), .val (.ref bz16), .unset, .unset, .unset]) rfl k_) ?_
  show OGo p.tables e below _ (T22.setTop (mkF m 76 #[.val (.int p1), .val (.long q2), .second, .val (.long q3), .second, .val (.long q4), .second, .val (.long q5), .second, .val (.int (p1 &&& (65535 : Int32)).toUInt32.toUInt16.toUInt32.toInt32), .val (.int vx), .val (.ref bz2), .val (.ref bz7), .val (.ref bz16), .unset, .unset, .unset] []))
  obtain ⟨T29, hz29, X29, ez29, Ez29, Az29, Dz29, -, st29⟩ := newO X22 hx hZ hown (hw _ (List.mem_of_getElem? (i := 1) rfl)) (hw _ (List.mem_of_getElem? (i := 2) rfl)) (hw _ (List.mem_of_getElem? (i := 3) rfl)) rfl (g := (mkF m 76 #[.val (.int p1), .val (.long q2), .second, .val (.long q3), .second, .val (.long q4), .second, .val (.long q5), .second, .val (.int (p1 &&& (65535 : Int32)).toUInt32.toUInt16.toUInt32.toInt32), .val (.int vx), .val (.ref bz2), .val (.ref bz7), .val (.ref bz16), .unset, .unset, .unset] [])) rfl (hb hby at_76) (by decide) (by decide)
  obtain ⟨bz29, g29⟩ : ∃ z, z = T22.heap.size := ⟨_, rfl⟩
  rw [← g29] at Az29 Dz29 st29
  have lt_bz2_bz29 : bz2 < bz29 := Nat.lt_of_lt_of_le Ex_23.lt (Nat.le_of_eq g29.symm)
  have lt_bz7_bz29 : bz7 < bz29 := Nat.lt_of_lt_of_le Ex_25.lt (Nat.le_of_eq g29.symm)
  have lt_bz16_bz29 : bz16 < bz29 := Nat.lt_of_lt_of_le Ex_27.lt (Nat.le_of_eq g29.symm)
  have g_bz29 : n0 ≤ bz29 := Nat.le_trans (Nat.le_trans Z0 K_28.1) (Nat.le_of_eq g29.symm)
  have sz_bz29 : h0.size ≤ bz29 := Nat.le_trans K_28.1 (Nat.le_of_eq g29.symm)
  have Ex_30 := Ex_23.ext Ez29
  have F_31 := F_24.ext Ez29
  have Ex_32 := Ex_25.ext Ez29
  have F_33 := F_26.ext Ez29
  have Ex_34 := Ex_27.ext Ez29
  have F_35 := qz22_0.ext Ez29
  have K_36 : Keep h0 hz29 [] := K_28.ext Ez29
  have F_process_29 : Fld Z hz29 bz29 "com/example/weaverbird/weaverbird/server/ProcessStat" "process" "J" (.long (0 : Int64)) := Dz29 (Or.inr (hw _ (List.mem_of_getElem? (i := 16) rfl))) (ty := .long) (by decide)
  have F_state_29 : Fld Z hz29 bz29 "com/example/weaverbird/weaverbird/server/ProcessStat" "state" "C" (.int (0 : Int32)) := Dz29 (Or.inr (hw _ (List.mem_of_getElem? (i := 18) rfl))) (ty := .char) (by decide)
  have F_parent_29 : Fld Z hz29 bz29 "com/example/weaverbird/weaverbird/server/ProcessStat" "parent" "J" (.long (0 : Int64)) := Dz29 (Or.inr (hw _ (List.mem_of_getElem? (i := 20) rfl))) (ty := .long) (by decide)
  have F_started_29 : Fld Z hz29 bz29 "com/example/weaverbird/weaverbird/server/ProcessStat" "started" "J" (.long (0 : Int64)) := Dz29 (Or.inr (hw _ (List.mem_of_getElem? (i := 22) rfl))) (ty := .long) (by decide)
  refine OGo.st st29 ?_
  show OGo p.tables e below _ (T29.setTop (mkF m 79 #[.val (.int p1), .val (.long q2), .second, .val (.long q3), .second, .val (.long q4), .second, .val (.long q5), .second, .val (.int (p1 &&& (65535 : Int32)).toUInt32.toUInt16.toUInt32.toInt32), .val (.int vx), .val (.ref bz2), .val (.ref bz7), .val (.ref bz16), .unset, .unset, .unset] [(.ref bz29)]))
  refine OGo.st (fun _ k_ => XS.dup X29.here hx rfl (hb hby at_79) rfl rfl k_) ?_
  show OGo p.tables e below _ (T29.setTop (mkF m 80 #[.val (.int p1), .val (.long q2), .second, .val (.long q3), .second, .val (.long q4), .second, .val (.long q5), .second, .val (.int (p1 &&& (65535 : Int32)).toUInt32.toUInt16.toUInt32.toInt32), .val (.int vx), .val (.ref bz2), .val (.ref bz7), .val (.ref bz16), .unset, .unset, .unset] [(.ref bz29), (.ref bz29)]))
  refine OGo.st (fun _ k_ => XS.lload X29.here hx rfl (hb hby at_80) rfl k_) ?_
  show OGo p.tables e below _ (T29.setTop (mkF m 82 #[.val (.int p1), .val (.long q2), .second, .val (.long q3), .second, .val (.long q4), .second, .val (.long q5), .second, .val (.int (p1 &&& (65535 : Int32)).toUInt32.toUInt16.toUInt32.toInt32), .val (.int vx), .val (.ref bz2), .val (.ref bz7), .val (.ref bz16), .unset, .unset, .unset] [(.long q5), (.ref bz29), (.ref bz29)]))
  refine OGo.st (fun _ k_ => XS.bipush X29.here hx rfl (hb hby at_82) k_) ?_
  show OGo p.tables e below _ (T29.setTop (mkF m 84 #[.val (.int p1), .val (.long q2), .second, .val (.long q3), .second, .val (.long q4), .second, .val (.long q5), .second, .val (.int (p1 &&& (65535 : Int32)).toUInt32.toUInt16.toUInt32.toInt32), .val (.int vx), .val (.ref bz2), .val (.ref bz7), .val (.ref bz16), .unset, .unset, .unset] [(.int (88 : Int32)), (.long q5), (.ref bz29), (.ref bz29)]))
  refine OGo.st (fun _ k_ => XS.lload X29.here hx rfl (hb hby at_84) rfl k_) ?_
  show OGo p.tables e below _ (T29.setTop (mkF m 86 #[.val (.int p1), .val (.long q2), .second, .val (.long q3), .second, .val (.long q4), .second, .val (.long q5), .second, .val (.int (p1 &&& (65535 : Int32)).toUInt32.toUInt16.toUInt32.toInt32), .val (.int vx), .val (.ref bz2), .val (.ref bz7), .val (.ref bz16), .unset, .unset, .unset] [(.long q4), (.int (88 : Int32)), (.long q5), (.ref bz29), (.ref bz29)]))
  refine OGo.st (fun _ k_ => XS.lloadN X29.here hx rfl (hb hby at_86) rfl k_) ?_
  show OGo p.tables e below _ (T29.setTop (mkF m 87 #[.val (.int p1), .val (.long q2), .second, .val (.long q3), .second, .val (.long q4), .second, .val (.long q5), .second, .val (.int (p1 &&& (65535 : Int32)).toUInt32.toUInt16.toUInt32.toInt32), .val (.int vx), .val (.ref bz2), .val (.ref bz7), .val (.ref bz16), .unset, .unset, .unset] [(.long q3), (.long q4), (.int (88 : Int32)), (.long q5), (.ref bz29), (.ref bz29)]))
  obtain ⟨_, _, ⟨T37, Lz37, kz37, nz37⟩, -, X37, ⟨Lc37, hQ37, lz37, yz37, zz37⟩, st37⟩ := X29.specialBack hx (y := (⟨"com/example/weaverbird/weaverbird/server/ProcessStat", "<init>", "(JCJJ)V"⟩ : MethodName)) rfl hown (mvT hZ (hw _ (List.mem_of_getElem? (i := 4) rfl))) (mvT hZ (hw _ (List.mem_of_getElem? (i := 5) rfl))) (mvT hZ (hw _ (List.mem_of_getElem? (i := 6) rfl))) (by decide) (backOf (W := 1) (rm1 l Z a0 hw [] bz29 q5 (88 : Int32) q4 q3 hz29 n0 (Nat.le_trans Z0 K_36.1) Az29 F_process_29 F_state_29 F_parent_29 F_started_29 g_bz29) hZ (hw _ (List.mem_of_getElem? (i := 6) rfl)) (hw _ (List.mem_of_getElem? (i := 3) rfl)) (by decide) (by decide)) (g := (mkF m 87 #[.val (.int p1), .val (.long q2), .second, .val (.long q3), .second, .val (.long q4), .second, .val (.long q5), .second, .val (.int (p1 &&& (65535 : Int32)).toUInt32.toUInt16.toUInt32.toInt32), .val (.int vx), .val (.ref bz2), .val (.ref bz7), .val (.ref bz16), .unset, .unset, .unset] [(.long q3), (.long q4), (.int (88 : Int32)), (.long q5), (.ref bz29), (.ref bz29)])) rfl (by rw [hml]; rfl) (Steps.refl _) (a := bz29) (argsL := [(.long q5), (.int (88 : Int32)), (.long q4), (.long q3)]) (rest := [(.ref bz29)]) (lenOf own_pd1 rfl) rfl (by show 2 * 0 + _ ≤ _; exact Nat.le_of_eq rfl) (hb hby at_87) (fun _ _ => ⟨rfl, ez29, (by decide : 4 + 0 ≤ _), (by decide : 16 + 0 ≤ _)⟩)
  dsimp only [Pt.U, Pt.locs, Pt.cells, Pt.slots] at X37 lz37 yz37 zz37 st37 hQ37
  subst lz37 yz37 zz37
  obtain ⟨rfl, Nq37, Kq37, qz37_0⟩ := hQ37
  have N37 := Fr.app N22 Nq37
  have Ex_38 := Ex_30.keep Kq37
  have F_39 := F_31.keep Kq37 (ninS (Nat.ne_of_lt lt_bz2_bz29) nin0)
  have Ex_40 := Ex_32.keep Kq37
  have F_41 := F_33.keep Kq37 (ninS (Nat.ne_of_lt lt_bz7_bz29) nin0)
  have Ex_42 := Ex_34.keep Kq37
  have F_43 := F_35.keep Kq37 (ninS (Nat.ne_of_lt lt_bz16_bz29) nin0)
  have Ex_44 := Az29.keep Kq37
  have K_45 : Keep h0 T37.heap [] := K_36.trans Kq37 (allS (Or.inr sz_bz29) all0)
  refine OGo.tr st37 ?_
  show OGo p.tables e below _ (T37.setTop (mkF m 90 #[.val (.int p1), .val (.long q2), .second, .val (.long q3), .second, .val (.long q4), .second, .val (.long q5), .second, .val (.int (p1 &&& (65535 : Int32)).toUInt32.toUInt16.toUInt32.toInt32), .val (.int vx), .val (.ref bz2), .val (.ref bz7), .val (.ref bz16), .unset, .unset, .unset] [(.ref bz29)]))
  refine OGo.st (fun _ k_ => XS.astore X37.here hx rfl (hb hby at_90) rfl rfl (l' := #[.val (.int p1), .val (.long q2), .second, .val (.long q3), .second, .val (.long q4), .second, .val (.long q5), .second, .val (.int (p1 &&& (65535 : Int32)).toUInt32.toUInt16.toUInt32.toInt32), .val (.int vx), .val (.ref bz2), .val (.ref bz7), .val (.ref bz16), .val (.ref bz29), .unset, .unset]) rfl k_) ?_
  show OGo p.tables e below _ (T37.setTop (mkF m 92 #[.val (.int p1), .val (.long q2), .second, .val (.long q3), .second, .val (.long q4), .second, .val (.long q5), .second, .val (.int (p1 &&& (65535 : Int32)).toUInt32.toUInt16.toUInt32.toInt32), .val (.int vx), .val (.ref bz2), .val (.ref bz7), .val (.ref bz16), .val (.ref bz29), .unset, .unset] []))
  refine OGo.st (fun _ k_ => XS.aload X37.here hx rfl (hb hby at_92) rfl rfl k_) ?_
  show OGo p.tables e below _ (T37.setTop (mkF m 94 #[.val (.int p1), .val (.long q2), .second, .val (.long q3), .second, .val (.long q4), .second, .val (.long q5), .second, .val (.int (p1 &&& (65535 : Int32)).toUInt32.toUInt16.toUInt32.toInt32), .val (.int vx), .val (.ref bz2), .val (.ref bz7), .val (.ref bz16), .val (.ref bz29), .unset, .unset] [(.ref bz2)]))
  obtain ⟨cq46, kqz46, qz46a, qz46b, qz46c⟩ := isOf hZ rfl Ex_38
  obtain ⟨_, _, ⟨T46, Lz46, kz46, nz46⟩, -, X46, ⟨Lc46, hQ46, lz46, yz46, zz46⟩, st46⟩ := X37.virtualBack hx (y := (⟨"com/example/weaverbird/weaverbird/server/ProcessStat", "runs", "()Z"⟩ : MethodName)) (z := (⟨"com/example/weaverbird/weaverbird/server/ProcessStat", "runs", "()Z"⟩ : MethodName)) hown (mvT hZ (hw _ (List.mem_of_getElem? (i := 23) rfl))) (mvT hZ (hw _ (List.mem_of_getElem? (i := 24) rfl))) (notFace_of_selects (args := #[]) (mvT hZ (hw _ (List.mem_of_getElem? (i := 26) rfl)))) (mvT hZ (hw _ (List.mem_of_getElem? (i := 26) rfl))) (mvT hZ (hw _ (List.mem_of_getElem? (i := 25) rfl))) (by decide) (backOf (W := 0) (rm4 l Z a0 hw [] bz2 (nar .char (p1 &&& (65535 : Int32)).toUInt32.toUInt16.toUInt32.toInt32) T37.heap n0 (Nat.le_trans Z0 K_45.1) F_39) hZ (hw _ (List.mem_of_getElem? (i := 27) rfl)) (hw _ (List.mem_of_getElem? (i := 3) rfl)) (by decide) (by decide)) qz46a qz46c (g := (mkF m 94 #[.val (.int p1), .val (.long q2), .second, .val (.long q3), .second, .val (.long q4), .second, .val (.long q5), .second, .val (.int (p1 &&& (65535 : Int32)).toUInt32.toUInt16.toUInt32.toInt32), .val (.int vx), .val (.ref bz2), .val (.ref bz7), .val (.ref bz16), .val (.ref bz29), .unset, .unset] [(.ref bz2)])) rfl (by rw [hml]; rfl) (Steps.refl _) (argsL := []) (rest := []) (lenOf own_pd2 rfl) rfl (by show 2 * 0 + _ ≤ _; exact Nat.le_of_eq rfl) (hb hby at_94) (fun _ _ => ⟨rfl, rfl, (by decide : 4 + 0 ≤ _), (by decide : 16 + 0 ≤ _)⟩)
  dsimp only [Pt.U, Pt.locs, Pt.cells, Pt.slots] at X46 lz46 yz46 zz46 st46 hQ46
  subst lz46 yz46 zz46
  obtain ⟨rfl, Nq46, ez46⟩ := hQ46
  have N46 := Fr.app N37 Nq46
  refine OGo.tr st46 ?_
  show OGo p.tables e below _ (T46.setTop (mkF m 97 #[.val (.int p1), .val (.long q2), .second, .val (.long q3), .second, .val (.long q4), .second, .val (.long q5), .second, .val (.int (p1 &&& (65535 : Int32)).toUInt32.toUInt16.toUInt32.toInt32), .val (.int vx), .val (.ref bz2), .val (.ref bz7), .val (.ref bz16), .val (.ref bz29), .unset, .unset] [(.int (own_runs (nar .char (p1 &&& (65535 : Int32)).toUInt32.toUInt16.toUInt32.toInt32)))]))
  refine OGo.st (fun _ k_ => XS.istore X46.here hx rfl (hb hby at_97) rfl (l' := #[.val (.int p1), .val (.long q2), .second, .val (.long q3), .second, .val (.long q4), .second, .val (.long q5), .second, .val (.int (p1 &&& (65535 : Int32)).toUInt32.toUInt16.toUInt32.toInt32), .val (.int vx), .val (.ref bz2), .val (.ref bz7), .val (.ref bz16), .val (.ref bz29), .val (.int (own_runs (nar .char (p1 &&& (65535 : Int32)).toUInt32.toUInt16.toUInt32.toInt32))), .unset]) rfl k_) ?_
  show OGo p.tables e below _ (T46.setTop (mkF m 99 #[.val (.int p1), .val (.long q2), .second, .val (.long q3), .second, .val (.long q4), .second, .val (.long q5), .second, .val (.int (p1 &&& (65535 : Int32)).toUInt32.toUInt16.toUInt32.toInt32), .val (.int vx), .val (.ref bz2), .val (.ref bz7), .val (.ref bz16), .val (.ref bz29), .val (.int (own_runs (nar .char (p1 &&& (65535 : Int32)).toUInt32.toUInt16.toUInt32.toInt32))), .unset] []))
  refine OGo.st (fun _ k_ => XS.aload X46.here hx rfl (hb hby at_99) rfl rfl k_) ?_
  show OGo p.tables e below _ (T46.setTop (mkF m 101 #[.val (.int p1), .val (.long q2), .second, .val (.long q3), .second, .val (.long q4), .second, .val (.long q5), .second, .val (.int (p1 &&& (65535 : Int32)).toUInt32.toUInt16.toUInt32.toInt32), .val (.int vx), .val (.ref bz2), .val (.ref bz7), .val (.ref bz16), .val (.ref bz29), .val (.int (own_runs (nar .char (p1 &&& (65535 : Int32)).toUInt32.toUInt16.toUInt32.toInt32))), .unset] [(.ref bz7)]))
  obtain ⟨cq47, kqz47, qz47a, qz47b, qz47c⟩ := isOf hZ ez46 Ex_40
  obtain ⟨_, _, ⟨T47, Lz47, kz47, nz47⟩, -, X47, ⟨Lc47, hQ47, lz47, yz47, zz47⟩, st47⟩ := X46.virtualBack hx (y := (⟨"com/example/weaverbird/weaverbird/server/ProcessStat", "runs", "()Z"⟩ : MethodName)) (z := (⟨"com/example/weaverbird/weaverbird/server/ProcessStat", "runs", "()Z"⟩ : MethodName)) hown (mvT hZ (hw _ (List.mem_of_getElem? (i := 23) rfl))) (mvT hZ (hw _ (List.mem_of_getElem? (i := 24) rfl))) (notFace_of_selects (args := #[]) (mvT hZ (hw _ (List.mem_of_getElem? (i := 26) rfl)))) (mvT hZ (hw _ (List.mem_of_getElem? (i := 26) rfl))) (mvT hZ (hw _ (List.mem_of_getElem? (i := 25) rfl))) (by decide) (backOf (W := 0) (rm4 l Z a0 hw [] bz7 (nar .char (p1 &&& (65535 : Int32)).toUInt32.toUInt16.toUInt32.toInt32) T37.heap n0 (Nat.le_trans Z0 K_45.1) F_41) hZ (hw _ (List.mem_of_getElem? (i := 27) rfl)) (hw _ (List.mem_of_getElem? (i := 3) rfl)) (by decide) (by decide)) qz47a qz47c (g := (mkF m 101 #[.val (.int p1), .val (.long q2), .second, .val (.long q3), .second, .val (.long q4), .second, .val (.long q5), .second, .val (.int (p1 &&& (65535 : Int32)).toUInt32.toUInt16.toUInt32.toInt32), .val (.int vx), .val (.ref bz2), .val (.ref bz7), .val (.ref bz16), .val (.ref bz29), .val (.int (own_runs (nar .char (p1 &&& (65535 : Int32)).toUInt32.toUInt16.toUInt32.toInt32))), .unset] [(.ref bz7)])) rfl (by rw [hml]; rfl) (Steps.refl _) (argsL := []) (rest := []) (lenOf own_pd2 rfl) rfl (by show 2 * 0 + _ ≤ _; exact Nat.le_of_eq rfl) (hb hby at_101) (fun _ _ => ⟨rfl, ez46, (by decide : 4 + 0 ≤ _), (by decide : 16 + 0 ≤ _)⟩)
  dsimp only [Pt.U, Pt.locs, Pt.cells, Pt.slots] at X47 lz47 yz47 zz47 st47 hQ47
  subst lz47 yz47 zz47
  obtain ⟨rfl, Nq47, ez47⟩ := hQ47
  have N47 := Fr.app N46 Nq47
  refine OGo.tr st47 ?_
  show OGo p.tables e below _ (T47.setTop (mkF m 104 #[.val (.int p1), .val (.long q2), .second, .val (.long q3), .second, .val (.long q4), .second, .val (.long q5), .second, .val (.int (p1 &&& (65535 : Int32)).toUInt32.toUInt16.toUInt32.toInt32), .val (.int vx), .val (.ref bz2), .val (.ref bz7), .val (.ref bz16), .val (.ref bz29), .val (.int (own_runs (nar .char (p1 &&& (65535 : Int32)).toUInt32.toUInt16.toUInt32.toInt32))), .unset] [(.int (own_runs (nar .char (p1 &&& (65535 : Int32)).toUInt32.toUInt16.toUInt32.toInt32)))]))
  refine OGo.st (fun _ k_ => XS.istore X47.here hx rfl (hb hby at_104) rfl (l' := #[.val (.int p1), .val (.long q2), .second, .val (.long q3), .second, .val (.long q4), .second, .val (.long q5), .second, .val (.int (p1 &&& (65535 : Int32)).toUInt32.toUInt16.toUInt32.toInt32), .val (.int vx), .val (.ref bz2), .val (.ref bz7), .val (.ref bz16), .val (.ref bz29), .val (.int (own_runs (nar .char (p1 &&& (65535 : Int32)).toUInt32.toUInt16.toUInt32.toInt32))), .val (.int (own_runs (nar .char (p1 &&& (65535 : Int32)).toUInt32.toUInt16.toUInt32.toInt32)))]) rfl k_) ?_
  show OGo p.tables e below _ (T47.setTop (mkF m 106 #[.val (.int p1), .val (.long q2), .second, .val (.long q3), .second, .val (.long q4), .second, .val (.long q5), .second, .val (.int (p1 &&& (65535 : Int32)).toUInt32.toUInt16.toUInt32.toInt32), .val (.int vx), .val (.ref bz2), .val (.ref bz7), .val (.ref bz16), .val (.ref bz29), .val (.int (own_runs (nar .char (p1 &&& (65535 : Int32)).toUInt32.toUInt16.toUInt32.toInt32))), .val (.int (own_runs (nar .char (p1 &&& (65535 : Int32)).toUInt32.toUInt16.toUInt32.toInt32)))] []))
  refine OGo.st (fun _ k_ => XS.iload X47.here hx rfl (hb hby at_106) rfl k_) ?_
  show OGo p.tables e below _ (T47.setTop (mkF m 108 #[.val (.int p1), .val (.long q2), .second, .val (.long q3), .second, .val (.long q4), .second, .val (.long q5), .second, .val (.int (p1 &&& (65535 : Int32)).toUInt32.toUInt16.toUInt32.toInt32), .val (.int vx), .val (.ref bz2), .val (.ref bz7), .val (.ref bz16), .val (.ref bz29), .val (.int (own_runs (nar .char (p1 &&& (65535 : Int32)).toUInt32.toUInt16.toUInt32.toInt32))), .val (.int (own_runs (nar .char (p1 &&& (65535 : Int32)).toUInt32.toUInt16.toUInt32.toInt32)))] [(.int (own_runs (nar .char (p1 &&& (65535 : Int32)).toUInt32.toUInt16.toUInt32.toInt32)))]))
  refine OGo.st (fun _ k_ => XS.iload X47.here hx rfl (hb hby at_108) rfl k_) ?_
  show OGo p.tables e below _ (T47.setTop (mkF m 110 #[.val (.int p1), .val (.long q2), .second, .val (.long q3), .second, .val (.long q4), .second, .val (.long q5), .second, .val (.int (p1 &&& (65535 : Int32)).toUInt32.toUInt16.toUInt32.toInt32), .val (.int vx), .val (.ref bz2), .val (.ref bz7), .val (.ref bz16), .val (.ref bz29), .val (.int (own_runs (nar .char (p1 &&& (65535 : Int32)).toUInt32.toUInt16.toUInt32.toInt32))), .val (.int (own_runs (nar .char (p1 &&& (65535 : Int32)).toUInt32.toUInt16.toUInt32.toInt32)))] [(.int vx), (.int (own_runs (nar .char (p1 &&& (65535 : Int32)).toUInt32.toUInt16.toUInt32.toInt32)))]))
  refine OGo.st (fun _ k_ => XS.icmpNo X47.here hx rfl (hb hby at_110) rfl (XT.ii_ne_f (own_cmp _ hvz1)) k_) ?_
  show OGo p.tables e below _ (T47.setTop (mkF m 113 #[.val (.int p1), .val (.long q2), .second, .val (.long q3), .second, .val (.long q4), .second, .val (.long q5), .second, .val (.int (p1 &&& (65535 : Int32)).toUInt32.toUInt16.toUInt32.toInt32), .val (.int vx), .val (.ref bz2), .val (.ref bz7), .val (.ref bz16), .val (.ref bz29), .val (.int (own_runs (nar .char (p1 &&& (65535 : Int32)).toUInt32.toUInt16.toUInt32.toInt32))), .val (.int (own_runs (nar .char (p1 &&& (65535 : Int32)).toUInt32.toUInt16.toUInt32.toInt32)))] []))
  refine OGo.st (fun _ k_ => XS.iload X47.here hx rfl (hb hby at_113) rfl k_) ?_
  show OGo p.tables e below _ (T47.setTop (mkF m 115 #[.val (.int p1), .val (.long q2), .second, .val (.long q3), .second, .val (.long q4), .second, .val (.long q5), .second, .val (.int (p1 &&& (65535 : Int32)).toUInt32.toUInt16.toUInt32.toInt32), .val (.int vx), .val (.ref bz2), .val (.ref bz7), .val (.ref bz16), .val (.ref bz29), .val (.int (own_runs (nar .char (p1 &&& (65535 : Int32)).toUInt32.toUInt16.toUInt32.toInt32))), .val (.int (own_runs (nar .char (p1 &&& (65535 : Int32)).toUInt32.toUInt16.toUInt32.toInt32)))] [(.int (own_runs (nar .char (p1 &&& (65535 : Int32)).toUInt32.toUInt16.toUInt32.toInt32)))]))
  refine OGo.st (fun _ k_ => XS.iload X47.here hx rfl (hb hby at_115) rfl k_) ?_
  show OGo p.tables e below _ (T47.setTop (mkF m 117 #[.val (.int p1), .val (.long q2), .second, .val (.long q3), .second, .val (.long q4), .second, .val (.long q5), .second, .val (.int (p1 &&& (65535 : Int32)).toUInt32.toUInt16.toUInt32.toInt32), .val (.int vx), .val (.ref bz2), .val (.ref bz7), .val (.ref bz16), .val (.ref bz29), .val (.int (own_runs (nar .char (p1 &&& (65535 : Int32)).toUInt32.toUInt16.toUInt32.toInt32))), .val (.int (own_runs (nar .char (p1 &&& (65535 : Int32)).toUInt32.toUInt16.toUInt32.toInt32)))] [(.int vx), (.int (own_runs (nar .char (p1 &&& (65535 : Int32)).toUInt32.toUInt16.toUInt32.toInt32)))]))
  refine OGo.st (fun _ k_ => XS.icmpNo X47.here hx rfl (hb hby at_117) rfl (XT.ii_ne_f (own_cmp _ hvz1)) k_) ?_
  show OGo p.tables e below _ (T47.setTop (mkF m 120 #[.val (.int p1), .val (.long q2), .second, .val (.long q3), .second, .val (.long q4), .second, .val (.long q5), .second, .val (.int (p1 &&& (65535 : Int32)).toUInt32.toUInt16.toUInt32.toInt32), .val (.int vx), .val (.ref bz2), .val (.ref bz7), .val (.ref bz16), .val (.ref bz29), .val (.int (own_runs (nar .char (p1 &&& (65535 : Int32)).toUInt32.toUInt16.toUInt32.toInt32))), .val (.int (own_runs (nar .char (p1 &&& (65535 : Int32)).toUInt32.toUInt16.toUInt32.toInt32)))] []))
  refine OGo.st (fun _ k_ => XS.aload X47.here hx rfl (hb hby at_120) rfl rfl k_) ?_
  show OGo p.tables e below _ (T47.setTop (mkF m 122 #[.val (.int p1), .val (.long q2), .second, .val (.long q3), .second, .val (.long q4), .second, .val (.long q5), .second, .val (.int (p1 &&& (65535 : Int32)).toUInt32.toUInt16.toUInt32.toInt32), .val (.int vx), .val (.ref bz2), .val (.ref bz7), .val (.ref bz16), .val (.ref bz29), .val (.int (own_runs (nar .char (p1 &&& (65535 : Int32)).toUInt32.toUInt16.toUInt32.toInt32))), .val (.int (own_runs (nar .char (p1 &&& (65535 : Int32)).toUInt32.toUInt16.toUInt32.toInt32)))] [(.ref bz16)]))
  obtain ⟨cq48, kqz48, qz48a, qz48b, qz48c⟩ := isOf hZ ez47 Ex_42
  obtain ⟨_, _, ⟨T48, Lz48, kz48, nz48⟩, -, X48, ⟨Lc48, hQ48, lz48, yz48, zz48⟩, st48⟩ := X47.virtualBack hx (y := (⟨"com/example/weaverbird/weaverbird/server/ProcessStat", "runs", "()Z"⟩ : MethodName)) (z := (⟨"com/example/weaverbird/weaverbird/server/ProcessStat", "runs", "()Z"⟩ : MethodName)) hown (mvT hZ (hw _ (List.mem_of_getElem? (i := 23) rfl))) (mvT hZ (hw _ (List.mem_of_getElem? (i := 24) rfl))) (notFace_of_selects (args := #[]) (mvT hZ (hw _ (List.mem_of_getElem? (i := 26) rfl)))) (mvT hZ (hw _ (List.mem_of_getElem? (i := 26) rfl))) (mvT hZ (hw _ (List.mem_of_getElem? (i := 25) rfl))) (by decide) (backOf (W := 0) (rm4 l Z a0 hw [] bz16 (nar .char (90 : Int32)) T37.heap n0 (Nat.le_trans Z0 K_45.1) F_43) hZ (hw _ (List.mem_of_getElem? (i := 27) rfl)) (hw _ (List.mem_of_getElem? (i := 3) rfl)) (by decide) (by decide)) qz48a qz48c (g := (mkF m 122 #[.val (.int p1), .val (.long q2), .second, .val (.long q3), .second, .val (.long q4), .second, .val (.long q5), .second, .val (.int (p1 &&& (65535 : Int32)).toUInt32.toUInt16.toUInt32.toInt32), .val (.int vx), .val (.ref bz2), .val (.ref bz7), .val (.ref bz16), .val (.ref bz29), .val (.int (own_runs (nar .char (p1 &&& (65535 : Int32)).toUInt32.toUInt16.toUInt32.toInt32))), .val (.int (own_runs (nar .char (p1 &&& (65535 : Int32)).toUInt32.toUInt16.toUInt32.toInt32)))] [(.ref bz16)])) rfl (by rw [hml]; rfl) (Steps.refl _) (argsL := []) (rest := []) (lenOf own_pd2 rfl) rfl (by show 2 * 0 + _ ≤ _; exact Nat.le_of_eq rfl) (hb hby at_122) (fun _ _ => ⟨rfl, ez47, (by decide : 4 + 0 ≤ _), (by decide : 16 + 0 ≤ _)⟩)
  dsimp only [Pt.U, Pt.locs, Pt.cells, Pt.slots] at X48 lz48 yz48 zz48 st48 hQ48
  subst lz48 yz48 zz48
  obtain ⟨rfl, Nq48, ez48⟩ := hQ48
  have N48 := Fr.app N47 Nq48
  refine OGo.tr st48 ?_
  show OGo p.tables e below _ (T48.setTop (mkF m 125 #[.val (.int p1), .val (.long q2), .second, .val (.long q3), .second, .val (.long q4), .second, .val (.long q5), .second, .val (.int (p1 &&& (65535 : Int32)).toUInt32.toUInt16.toUInt32.toInt32), .val (.int vx), .val (.ref bz2), .val (.ref bz7), .val (.ref bz16), .val (.ref bz29), .val (.int (own_runs (nar .char (p1 &&& (65535 : Int32)).toUInt32.toUInt16.toUInt32.toInt32))), .val (.int (own_runs (nar .char (p1 &&& (65535 : Int32)).toUInt32.toUInt16.toUInt32.toInt32)))] [(.int (own_runs (nar .char (90 : Int32))))]))
  refine OGo.st (fun _ k_ => XS.ifNo X48.here hx rfl (hb hby at_125) rfl (XT.i0_ne_f (by decide)) k_) ?_
  show OGo p.tables e below _ (T48.setTop (mkF m 128 #[.val (.int p1), .val (.long q2), .second, .val (.long q3), .second, .val (.long q4), .second, .val (.long q5), .second, .val (.int (p1 &&& (65535 : Int32)).toUInt32.toUInt16.toUInt32.toInt32), .val (.int vx), .val (.ref bz2), .val (.ref bz7), .val (.ref bz16), .val (.ref bz29), .val (.int (own_runs (nar .char (p1 &&& (65535 : Int32)).toUInt32.toUInt16.toUInt32.toInt32))), .val (.int (own_runs (nar .char (p1 &&& (65535 : Int32)).toUInt32.toUInt16.toUInt32.toInt32)))] []))
  refine OGo.st (fun _ k_ => XS.aload X48.here hx rfl (hb hby at_128) rfl rfl k_) ?_
  show OGo p.tables e below _ (T48.setTop (mkF m 130 #[.val (.int p1), .val (.long q2), .second, .val (.long q3), .second, .val (.long q4), .second, .val (.long q5), .second, .val (.int (p1 &&& (65535 : Int32)).toUInt32.toUInt16.toUInt32.toInt32), .val (.int vx), .val (.ref bz2), .val (.ref bz7), .val (.ref bz16), .val (.ref bz29), .val (.int (own_runs (nar .char (p1 &&& (65535 : Int32)).toUInt32.toUInt16.toUInt32.toInt32))), .val (.int (own_runs (nar .char (p1 &&& (65535 : Int32)).toUInt32.toUInt16.toUInt32.toInt32)))] [(.ref bz29)]))
  obtain ⟨cq49, kqz49, qz49a, qz49b, qz49c⟩ := isOf hZ ez48 Ex_44
  obtain ⟨_, _, ⟨T49, Lz49, kz49, nz49⟩, -, X49, ⟨Lc49, hQ49, lz49, yz49, zz49⟩, st49⟩ := X48.virtualBack hx (y := (⟨"com/example/weaverbird/weaverbird/server/ProcessStat", "runs", "()Z"⟩ : MethodName)) (z := (⟨"com/example/weaverbird/weaverbird/server/ProcessStat", "runs", "()Z"⟩ : MethodName)) hown (mvT hZ (hw _ (List.mem_of_getElem? (i := 23) rfl))) (mvT hZ (hw _ (List.mem_of_getElem? (i := 24) rfl))) (notFace_of_selects (args := #[]) (mvT hZ (hw _ (List.mem_of_getElem? (i := 26) rfl)))) (mvT hZ (hw _ (List.mem_of_getElem? (i := 26) rfl))) (mvT hZ (hw _ (List.mem_of_getElem? (i := 25) rfl))) (by decide) (backOf (W := 0) (rm4 l Z a0 hw [] bz29 (nar .char (88 : Int32)) T37.heap n0 (Nat.le_trans Z0 K_45.1) qz37_0) hZ (hw _ (List.mem_of_getElem? (i := 27) rfl)) (hw _ (List.mem_of_getElem? (i := 3) rfl)) (by decide) (by decide)) qz49a qz49c (g := (mkF m 130 #[.val (.int p1), .val (.long q2), .second, .val (.long q3), .second, .val (.long q4), .second, .val (.long q5), .second, .val (.int (p1 &&& (65535 : Int32)).toUInt32.toUInt16.toUInt32.toInt32), .val (.int vx), .val (.ref bz2), .val (.ref bz7), .val (.ref bz16), .val (.ref bz29), .val (.int (own_runs (nar .char (p1 &&& (65535 : Int32)).toUInt32.toUInt16.toUInt32.toInt32))), .val (.int (own_runs (nar .char (p1 &&& (65535 : Int32)).toUInt32.toUInt16.toUInt32.toInt32)))] [(.ref bz29)])) rfl (by rw [hml]; rfl) (Steps.refl _) (argsL := []) (rest := []) (lenOf own_pd2 rfl) rfl (by show 2 * 0 + _ ≤ _; exact Nat.le_of_eq rfl) (hb hby at_130) (fun _ _ => ⟨rfl, ez48, (by decide : 4 + 0 ≤ _), (by decide : 16 + 0 ≤ _)⟩)
  dsimp only [Pt.U, Pt.locs, Pt.cells, Pt.slots] at X49 lz49 yz49 zz49 st49 hQ49
  subst lz49 yz49 zz49
  obtain ⟨rfl, Nq49, ez49⟩ := hQ49
  have N49 := Fr.app N48 Nq49
  refine OGo.tr st49 ?_
  show OGo p.tables e below _ (T49.setTop (mkF m 133 #[.val (.int p1), .val (.long q2), .second, .val (.long q3), .second, .val (.long q4), .second, .val (.long q5), .second, .val (.int (p1 &&& (65535 : Int32)).toUInt32.toUInt16.toUInt32.toInt32), .val (.int vx), .val (.ref bz2), .val (.ref bz7), .val (.ref bz16), .val (.ref bz29), .val (.int (own_runs (nar .char (p1 &&& (65535 : Int32)).toUInt32.toUInt16.toUInt32.toInt32))), .val (.int (own_runs (nar .char (p1 &&& (65535 : Int32)).toUInt32.toUInt16.toUInt32.toInt32)))] [(.int (own_runs (nar .char (88 : Int32))))]))
  refine OGo.st (fun _ k_ => XS.ifNo X49.here hx rfl (hb hby at_133) rfl (XT.i0_ne_f (by decide)) k_) ?_
  show OGo p.tables e below _ (T49.setTop (mkF m 136 #[.val (.int p1), .val (.long q2), .second, .val (.long q3), .second, .val (.long q4), .second, .val (.long q5), .second, .val (.int (p1 &&& (65535 : Int32)).toUInt32.toUInt16.toUInt32.toInt32), .val (.int vx), .val (.ref bz2), .val (.ref bz7), .val (.ref bz16), .val (.ref bz29), .val (.int (own_runs (nar .char (p1 &&& (65535 : Int32)).toUInt32.toUInt16.toUInt32.toInt32))), .val (.int (own_runs (nar .char (p1 &&& (65535 : Int32)).toUInt32.toUInt16.toUInt32.toInt32)))] []))
  refine OGo.st (fun _ k_ => XS.iconst X49.here hx rfl (hb hby at_136) k_) ?_
  show OGo p.tables e below _ (T49.setTop (mkF m 137 #[.val (.int p1), .val (.long q2), .second, .val (.long q3), .second, .val (.long q4), .second, .val (.long q5), .second, .val (.int (p1 &&& (65535 : Int32)).toUInt32.toUInt16.toUInt32.toInt32), .val (.int vx), .val (.ref bz2), .val (.ref bz7), .val (.ref bz16), .val (.ref bz29), .val (.int (own_runs (nar .char (p1 &&& (65535 : Int32)).toUInt32.toUInt16.toUInt32.toInt32))), .val (.int (own_runs (nar .char (p1 &&& (65535 : Int32)).toUInt32.toUInt16.toUInt32.toInt32)))] [(.int (1 : Int32))]))
  refine OGo.st (fun _ k_ => XS.goto X49.here hx rfl (pc0 := 137) (pc' := 141) rfl (hb hby at_137) (by decide) (by decide) k_) ?_
  show OGo p.tables e below _ (T49.setTop (mkF m 141 #[.val (.int p1), .val (.long q2), .second, .val (.long q3), .second, .val (.long q4), .second, .val (.long q5), .second, .val (.int (p1 &&& (65535 : Int32)).toUInt32.toUInt16.toUInt32.toInt32), .val (.int vx), .val (.ref bz2), .val (.ref bz7), .val (.ref bz16), .val (.ref bz29), .val (.int (own_runs (nar .char (p1 &&& (65535 : Int32)).toUInt32.toUInt16.toUInt32.toInt32))), .val (.int (own_runs (nar .char (p1 &&& (65535 : Int32)).toUInt32.toUInt16.toUInt32.toInt32)))] [(.int (1 : Int32))]))
  refine OGo.fin X49 (v := some (.int (1 : Int32))) (fun h => by rw [Bd.returns] at h; cases h) hlk (fun fs hr => X49.ireturnOut hx Bd.returns rfl (by simp) (hb hby at_141) hr) ?_ (by decide) (by decide)
  show own_Q_rm0 Z p1 q2 q3 q4 q5 h0 n0 _ T49.heap _
  rw [ez49]
  exact ⟨rfl, N49⟩
set_option maxRecDepth 65536 in
set_option maxHeartbeats 40000000 in
theorem comes_1 {Post : Tables → Env → Array Value → State → Outcome → State → Prop} (hpost : ∀ tb e args s v u, (limb_1_1.after args s (.returned v) u = true ∧ limb_1_2.after args s (.returned v) u = true ∧ True) → FrameEnd s (.returned v) u (Jvm.fieldLocs frame_1_writes args s ++ Jvm.arrayLocs frame_1_arrays args s ++ Jvm.staticLocs frame_1_statics s) 16 128 → Post tb e args s (.returned v) u) :
    ArmFor flags0 classFile x code maxLocals ret World_1 tables_1 room_1 Calls_1 rest_1 Pre_1 Post := by
  intro l hfl _ _ p e ha hc hk s m args below hf hA hF happ hP
  obtain ⟨hcalls, hrest, hpre⟩ := hP
  obtain ⟨-, -, -, hnamed, -, -, -, hat⟩ := (Spec.applies_iff hf).mp happ
  obtain ⟨hg, hn⟩ := and_e (Cond.before_iff.mp (show (Jvm.Cond.and given_1 narrow_1).before args s = true from hpre))
  obtain ⟨g0, r0⟩ := and_e hg
  obtain ⟨a0, r1⟩ := and_e r0
  obtain ⟨a1, r2⟩ := and_e r1
  obtain ⟨a2, r3⟩ := and_e r2
  obtain ⟨a3, r4⟩ := and_e r3
  obtain ⟨w0, w1, w2, w3, w4, rfl⟩ : ∃ w0 w1 w2 w3 w4 : Value, args = #[w0, w1, w2, w3, w4] := by
    have hs : args.size = 5 := by simpa [Cond.value, given_1] using g0
    obtain ⟨L⟩ := args
    match L, hs with
    | [w0, w1, w2, w3, w4], _ => exact ⟨w0, w1, w2, w3, w4, rfl⟩
  have hw := fun d (hd : d ∈ tables_1) => atoms_spec (ws := Jvm.Cond.code x code maxLocals ret :: tables_1) hat d (List.mem_cons_of_mem _ hd)
  have hfit : Fit s := fun {y c} hc i hi => by
    obtain ⟨ha, rfl⟩ := Array.getElem?_eq_some_iff.mp hc
    have q := List.all_eq_true.mp ((Array.all_eq_true_iff_forall_mem.mp hF) _ (Array.getElem_mem ha)) i (List.mem_range.mpr hi)
    simpa [Array.getElem?_eq_getElem hi] using q
  obtain ⟨i0, ei0⟩ := is_v a0
  obtain rfl : w0 = (.int i0) := Option.some.inj ei0
  obtain ⟨i1, ei1⟩ := isL_v a1
  obtain rfl : w1 = (.long i1) := Option.some.inj ei1
  obtain ⟨i2, ei2⟩ := isL_v a2
  obtain rfl : w2 = (.long i2) := Option.some.inj ei2
  obtain ⟨i3, ei3⟩ := isL_v a3
  obtain rfl : w3 = (.long i3) := Option.some.inj ei3
  obtain ⟨i4, ei4⟩ := isL_v r4
  obtain rfl : w4 = (.long i4) := Option.some.inj ei4
  obtain ⟨n, o, h1, h2, h3, _, L, rfl, ⟨rfl, N⟩, hq⟩ := rm0 l s _ hw tables_1 i0 i1 i2 i3 i4  s.heap s.heap.size (Nat.le_refl _)  p e ha hc hk s m _ below hf ((Spec.applies_iff_loose hf).mp happ).1 ⟨rfl, State.Warmed39.refl s, rfl⟩ trivial
  refine ⟨n, _, h1, h2, h3, hpost _ _ _ _ _ _ ⟨Cond.after_iff.mpr rfl, Cond.after_iff.mpr (eq_i res_at (Term.int_eval (1)) rfl), trivial⟩ ⟨hq.1, hq.2.1, (hq.2.2.sift fun y hy => Or.inr (N y hy)).mono (by decide) (by decide)⟩⟩
theorem main_1_1 : Claimed_1_1 := comes_1 fun _ _ _ _ _ _ h hF => ⟨h.1, hF⟩
theorem main_1_2 : Claimed_1_2 := comes_1 fun _ _ _ _ _ _ h hF => ⟨h.2.1, hF⟩
end Jvm.Pilot.@@N@@
namespace Jvm.Pilot.@@N@@
open Jvm Jvm.ClassFile Sem Op Lib Jvm.Free Jvm.Stand Jvm.Pilot.@@N@@.Jvm.D
/-! MADE BY PROGRAM (witnessworld.py) out of the Statement's table words and the real class files: 10 classes; the members and pool entries that the words name. The judged class is class 1, her method 1. -/
namespace start1
open Jvm.ClassFile
def u (s : String) : CpInfo := .utf8 (stringToUtf16 s)
/-- a pool by its gaps: so many unusable entries, then the entry; so many at the end -/
def gap : Nat → List CpInfo → List CpInfo
  | 0, r => r
  | n + 1, r => .unusable :: gap n r
def poolList (es : List (Nat × CpInfo)) (last : Nat) : List CpInfo := es.foldr (fun e r => gap e.1 (e.2 :: r)) (gap last [])
def pool (es : List (Nat × CpInfo)) (last : Nat) : Array CpInfo := ⟨poolList es last⟩
def fileOf (pool : Array CpInfo) (this : Nat) (attrs : Array Attribute := #[]) (ms : Array MethodInfo := #[]) (fl : Nat := 33) (sup : Nat := 0) (ifs : Array Nat := #[]) (fds : Array FieldInfo := #[]) : ClassFile where
  minorVersion := 0
  majorVersion := 65
  constantPool := pool
  accessFlags := fl
  thisClass := this
  superClass := sup
  interfaces := ifs
  fields := fds
  methods := ms
  attributes := attrs
def plain (name : String) (sup : Option ClassId) : Class where
  name := name
  kind := .ordinary
  loader := none
  accessFlags := 33
  super := sup
  interfaces := #[]
  cf := none
  fields := #[]
  methods := #[]
  instanceTypes := #[]
  staticTypes := #[]
  resolved := #[]
  callSites := []
  init := .initialized
  statics := none
  mirror := none

def pool0 : Array CpInfo := pool [(5, u "<init>"), (0, u "()V"), (1, .class_ 10), (1, u "java/lang/Object")] 113

def k0c0 : Code := { maxStack := 0, maxLocals := 1, code := object_method_1_code, exceptionTable := #[], attributes := #[] }
def k0m0 : Method := { name := "<init>", desc := "()V", sig := { parameters := [], returnType := none }, accessFlags := 1, code := some k0c0 }
/-- java/lang/Object -/
def k0 : Class := { plain "java/lang/Object" none with
  accessFlags := 33
  interfaces := #[]
  cf := some (fileOf pool0 8 #[] #[{ accessFlags := 1, nameIndex := 5, descriptorIndex := 6, attributes := #[] }] 33 0 #[] #[])
  fields := #[]
  methods := #[k0m0]
  instanceTypes := #[]
  staticTypes := #[]
  resolved := Array.replicate 124 none
  statics := none }

def pool1 : Array CpInfo := pool [(2, .class_ 4), (1, u "java/lang/Object"), (0, u "<init>"), (0, u "()V"), (0, .integer 65535), (0, .class_ 9), (0, u "com/example/weaverbird/weaverbird/server/ProcessStat"), (0, .methodref 8 11), (0, .nameAndType 5 12), (0, u "(JCJJ)V"), (0, .methodref 8 14), (0, .nameAndType 15 16), (0, u "runs"), (0, u "()Z"), (0, .class_ 18), (0, u "com/example/weaverbird/weaverbird/server/ProcessStatRunsPinLaw"), (2, u "law"), (0, u "(IJJJJ)Z")] 3

def k1m0 : Method := { name := "<init>", desc := "()V", sig := { parameters := [], returnType := none }, accessFlags := 1, code := none }
def k1c1 : Code := { maxStack := 9, maxLocals := 17, code := code, exceptionTable := #[], attributes := #[] }
def k1m1 : Method := { name := "law", desc := "(IJJJJ)Z", sig := { parameters := [.int, .long, .long, .long, .long], returnType := some .boolean }, accessFlags := 9, code := some k1c1 }
/-- com/example/weaverbird/weaverbird/server/ProcessStatRunsPinLaw -/
def k1 : Class := { plain "com/example/weaverbird/weaverbird/server/ProcessStatRunsPinLaw" (some 0) with
  accessFlags := 49
  interfaces := #[]
  cf := some (fileOf pool1 17 #[] #[{ accessFlags := 1, nameIndex := 5, descriptorIndex := 6, attributes := #[] }, { accessFlags := 9, nameIndex := 21, descriptorIndex := 22, attributes := #[] }] 49 2 #[] #[])
  fields := #[]
  methods := #[k1m0, k1m1]
  instanceTypes := #[]
  staticTypes := #[]
  resolved := Array.replicate 26 none
  statics := none }

def pool2 : Array CpInfo := pool [(1, .methodref 2 3), (0, .class_ 4), (0, .nameAndType 5 6), (0, u "java/lang/Object"), (0, u "<init>"), (0, u "()V"), (0, .class_ 8), (0, u "java/lang/Record")] 13

def k2c0 : Code := { maxStack := 1, maxLocals := 1, code := jdk_30_method_1_code, exceptionTable := #[], attributes := #[] }
def k2m0 : Method := { name := "<init>", desc := "()V", sig := { parameters := [], returnType := none }, accessFlags := 4, code := some k2c0 }
/-- java/lang/Record -/
def k2 : Class := { plain "java/lang/Record" (some 0) with
  accessFlags := 1057
  interfaces := #[]
  cf := some (fileOf pool2 7 #[] #[{ accessFlags := 4, nameIndex := 5, descriptorIndex := 6, attributes := #[] }] 1057 2 #[] #[])
  fields := #[]
  methods := #[k2m0]
  instanceTypes := #[]
  staticTypes := #[]
  resolved := Array.replicate 22 none
  statics := none }

def pool3 : Array CpInfo := pool [(1, .methodref 2 3), (0, .class_ 4), (0, .nameAndType 5 6), (0, u "java/lang/Record"), (0, u "<init>"), (0, u "()V"), (0, .fieldref 8 9), (0, .class_ 10), (0, .nameAndType 11 12), (0, u "com/example/weaverbird/weaverbird/server/ProcessStat"), (0, u "process"), (0, u "J"), (0, .fieldref 8 14), (0, .nameAndType 15 16), (0, u "state"), (0, u "C"), (0, .fieldref 8 18), (0, .nameAndType 19 12), (0, u "parent"), (0, .fieldref 8 21), (0, .nameAndType 22 12), (0, u "started"), (69, u "(JCJJ)V"), (18, u "PARENT_FIELD"), (0, u "I"), (2, u "STARTED_FIELD"), (8, u "runs"), (0, u "()Z")] 35

def k3c0 : Code := { maxStack := 3, maxLocals := 8, code := prog_207_method_1_code, exceptionTable := #[], attributes := #[] }
def k3m0 : Method := { name := "<init>", desc := "(JCJJ)V", sig := { parameters := [.long, .char, .long, .long], returnType := none }, accessFlags := 1, code := some k3c0 }
def k3c1 : Code := { maxStack := 2, maxLocals := 1, code := prog_207_method_3_code, exceptionTable := #[], attributes := #[] }
def k3m1 : Method := { name := "runs", desc := "()Z", sig := { parameters := [], returnType := some .boolean }, accessFlags := 1, code := some k3c1 }
/-- com/example/weaverbird/weaverbird/server/ProcessStat -/
def k3 : Class := { plain "com/example/weaverbird/weaverbird/server/ProcessStat" (some 2) with
  accessFlags := 49
  interfaces := #[]
  cf := some (fileOf pool3 8 #[] #[{ accessFlags := 1, nameIndex := 5, descriptorIndex := 92, attributes := #[] }, { accessFlags := 1, nameIndex := 124, descriptorIndex := 125, attributes := #[] }] 49 2 #[] #[{ accessFlags := 18, nameIndex := 11, descriptorIndex := 12, attributes := #[] }, { accessFlags := 18, nameIndex := 15, descriptorIndex := 16, attributes := #[] }, { accessFlags := 18, nameIndex := 19, descriptorIndex := 12, attributes := #[] }, { accessFlags := 18, nameIndex := 22, descriptorIndex := 12, attributes := #[] }, { accessFlags := 26, nameIndex := 111, descriptorIndex := 112, attributes := #[] }, { accessFlags := 26, nameIndex := 115, descriptorIndex := 112, attributes := #[] }])
  fields := #[{ name := "process", type := .long, accessFlags := 18, slot := 0, constantValue := 0 }, { name := "state", type := .char, accessFlags := 18, slot := 1, constantValue := 0 }, { name := "parent", type := .long, accessFlags := 18, slot := 2, constantValue := 0 }, { name := "started", type := .long, accessFlags := 18, slot := 3, constantValue := 0 }, { name := "PARENT_FIELD", type := .int, accessFlags := 26, slot := 0, constantValue := 0 }, { name := "STARTED_FIELD", type := .int, accessFlags := 26, slot := 1, constantValue := 0 }]
  methods := #[k3m0, k3m1]
  instanceTypes := #[.long, .char, .long, .long]
  staticTypes := #[.int, .int]
  resolved := Array.replicate 161 none
  statics := none }

def pool4 : Array CpInfo := pool [(1, u "java/lang/Cloneable"), (0, .class_ 1), (0, u "java/lang/Object"), (0, .class_ 3)] 3

/-- java/lang/Cloneable -/
def k4 : Class := { plain "java/lang/Cloneable" (some 0) with
  accessFlags := 1537
  interfaces := #[]
  cf := some (fileOf pool4 2 #[] #[] 1537 4 #[] #[])
  fields := #[]
  methods := #[]
  instanceTypes := #[]
  staticTypes := #[]
  resolved := Array.replicate 8 none
  statics := none }

def pool5 : Array CpInfo := pool [(1, u "java/io/Serializable"), (0, .class_ 1), (0, u "java/lang/Object"), (0, .class_ 3)] 3

/-- java/io/Serializable -/
def k5 : Class := { plain "java/io/Serializable" (some 0) with
  accessFlags := 1537
  interfaces := #[]
  cf := some (fileOf pool5 2 #[] #[] 1537 4 #[] #[])
  fields := #[]
  methods := #[]
  instanceTypes := #[]
  staticTypes := #[]
  resolved := Array.replicate 8 none
  statics := none }

/-- the primitive byte -/
def k6 : Class := { plain "byte" none with kind := .primitive 'B', accessFlags := 0x411 }
/-- [B -/
def k7 : Class := { plain "[B" (some 0) with kind := .array 6 .byte, interfaces := #[4, 5], accessFlags := 1041 }

/-- the primitive int -/
def k8 : Class := { plain "int" none with kind := .primitive 'I', accessFlags := 0x411 }
/-- [I -/
def k9 : Class := { plain "[I" (some 0) with kind := .array 8 .int, interfaces := #[4, 5], accessFlags := 1041 }

def heap : Heap := #[]
def classes : Array Class := #[k0, k1, k2, k3, k4, k5, k6, k7, k8, k9]
def interned : List (Array UInt16 × Addr) := []
def slotsUsed : Nat := 0
def theMethod : MethodId := ⟨1, 1⟩
def args0 : Array Value := #[.int 65, .long 1, .long 2, .long 3, .long 4]
def aboutOver (below : List Frame) : State where
  vm := { classes := classes, interned := interned.toArray }
  heap := heap
  slotsUsed := slotsUsed
  threads := #[{ frames := .invoking theMethod args0 :: below }]
def below0 : List Frame := [.native { method := ⟨0, 0⟩, args := #[] }]
def about1 : State := aboutOver below0
def p0 : Program := .bare "" "" ""
def e0 : Env := launch0.env 0 0 0
theorem w_frames : about1.frames = Frame.invoking theMethod args0 :: below0 := rfl
set_option maxRecDepth 65536 in
theorem w_args : argsFit about1.vm theMethod args0 = true := by decide +kernel
set_option maxRecDepth 65536 in
theorem w_heap : heapFits about1 = true := by decide +kernel
set_option maxRecDepth 65536 in
theorem w_runnable : about1.curStatus? = some .runnable := by decide +kernel
set_option maxRecDepth 65536 in
theorem w_alone : about1.alone = true := by decide +kernel
set_option maxRecDepth 65536 in
theorem w_named : about1.methodNamed? x = some theMethod := by decide +kernel
set_option maxRecDepth 65536 in
theorem w_hears : about1.hears theMethod below0 = true := by decide +kernel
set_option maxRecDepth 65536 in
theorem w_ripe : about1.ripe theMethod args0 below0 = true := by decide +kernel
theorem w_running : about1.status = .running := rfl
set_option maxRecDepth 65536 in
theorem w_room : about1.hasRoom e0.platform room_1 = true :=
  launch0.hasRoom_least _ room_1 (by decide +kernel) (by decide +kernel) (by decide +kernel) (by decide +kernel) (by decide +kernel) (by decide +kernel)
theorem allAtoms_all (ts : List Jvm.Cond) (a : Array Jvm.Value) (st : Jvm.State) : (allAtoms ts).before a st = ts.all (fun c => c.before a st) := by
  induction ts with
  | nil => rfl
  | cons c t ih =>
    show (Jvm.Cond.and c (allAtoms t)).before a st = _
    rw [Jvm.Cond.before_and, ih, List.all_cons]
def words1 : List Jvm.Cond := Jvm.Cond.code x code maxLocals ret :: tables_1
/-- a 'code' word, met by the world's own term for the bytes: nothing is compared byte by byte -/
theorem code_word {y : MethodName} {bytes : ByteArray} {mx : Nat} {rt : Option FieldType} {a : Array Value} {s : State} {m : MethodId} {meth : Method} {c : Code} (h1 : s.methodNamed? y = some m) (h2 : s.vm.method? m = some meth) (h3 : meth.code = some c) (h4 : c.code = bytes)
    (h5 : (c.maxLocals == mx && c.exceptionTable.isEmpty && decide (c.maxStack ≤ mostOperands) && decide (meth.sig.returnType = rt) && !meth.locks && decide (parseMethodDescriptor y.desc = some meth.sig)) = true) : (Jvm.Cond.code y bytes mx rt).before a s = true := by
  simp only [Bool.and_eq_true, beq_iff_eq, Bool.not_eq_true', decide_eq_true_eq] at h5
  obtain ⟨⟨⟨⟨⟨g1, g2⟩, g3⟩, g4⟩, g5⟩, g6⟩ := h5
  simp [Cond.before, Cond.holds, Cond.value, h1, h2, h3, h4, g1, g2, g3, g4, g5, g6]
def isCode : Jvm.Cond → Bool
  | .code _ _ _ _ => true
  | _ => false
theorem all_split {L : List Jvm.Cond} {P : Jvm.Cond → Bool} (h1 : L.all (fun c => isCode c || P c) = true) (h2 : ∀ c ∈ L.filter isCode, P c = true) : L.all P = true := by
  refine List.all_eq_true.mpr fun c hc => ?_
  have h := List.all_eq_true.mp h1 c hc
  rcases Bool.eq_false_or_eq_true (isCode c) with hi | hi
  · exact h2 c (List.mem_filter.mpr ⟨hc, hi⟩)
  · simpa [hi] using h
set_option maxRecDepth 65536 in
theorem w_c0 : (Jvm.Cond.code x code maxLocals ret).before args0 about1 = true := code_word (m := ⟨1, 1⟩) (meth := k1m1) (c := k1c1) (by decide +kernel) rfl rfl rfl (by decide +kernel)
set_option maxRecDepth 65536 in
theorem w_c1 : (Jvm.Cond.code ({ cls := "com/example/weaverbird/weaverbird/server/ProcessStat", name := "<init>", desc := "(JCJJ)V" } : Jvm.MethodName) prog_207_method_1_code (8 : Nat) (Option.none : Option Jvm.ClassFile.FieldType)).before args0 about1 = true := code_word (m := ⟨3, 0⟩) (meth := k3m0) (c := k3c0) (by decide +kernel) rfl rfl rfl (by decide +kernel)
set_option maxRecDepth 65536 in
theorem w_c2 : (Jvm.Cond.code ({ cls := "java/lang/Record", name := "<init>", desc := "()V" } : Jvm.MethodName) jdk_30_method_1_code (1 : Nat) (Option.none : Option Jvm.ClassFile.FieldType)).before args0 about1 = true := code_word (m := ⟨2, 0⟩) (meth := k2m0) (c := k2c0) (by decide +kernel) rfl rfl rfl (by decide +kernel)
set_option maxRecDepth 65536 in
theorem w_c3 : (Jvm.Cond.code ({ cls := "java/lang/Object", name := "<init>", desc := "()V" } : Jvm.MethodName) object_method_1_code (1 : Nat) (Option.none : Option Jvm.ClassFile.FieldType)).before args0 about1 = true := code_word (m := ⟨0, 0⟩) (meth := k0m0) (c := k0c0) (by decide +kernel) rfl rfl rfl (by decide +kernel)
set_option maxRecDepth 65536 in
theorem w_c4 : (Jvm.Cond.code ({ cls := "com/example/weaverbird/weaverbird/server/ProcessStat", name := "runs", desc := "()Z" } : Jvm.MethodName) prog_207_method_3_code (1 : Nat) (Option.some Jvm.ClassFile.FieldType.boolean)).before args0 about1 = true := code_word (m := ⟨3, 1⟩) (meth := k3m1) (c := k3c1) (by decide +kernel) rfl rfl rfl (by decide +kernel)
def codes1 : List Jvm.Cond := [Jvm.Cond.code x code maxLocals ret, Jvm.Cond.code ({ cls := "com/example/weaverbird/weaverbird/server/ProcessStat", name := "<init>", desc := "(JCJJ)V" } : Jvm.MethodName) prog_207_method_1_code (8 : Nat) (Option.none : Option Jvm.ClassFile.FieldType), Jvm.Cond.code ({ cls := "java/lang/Record", name := "<init>", desc := "()V" } : Jvm.MethodName) jdk_30_method_1_code (1 : Nat) (Option.none : Option Jvm.ClassFile.FieldType), Jvm.Cond.code ({ cls := "java/lang/Object", name := "<init>", desc := "()V" } : Jvm.MethodName) object_method_1_code (1 : Nat) (Option.none : Option Jvm.ClassFile.FieldType), Jvm.Cond.code ({ cls := "com/example/weaverbird/weaverbird/server/ProcessStat", name := "runs", desc := "()Z" } : Jvm.MethodName) prog_207_method_3_code (1 : Nat) (Option.some Jvm.ClassFile.FieldType.boolean)]
set_option maxRecDepth 65536 in
theorem codes_eq : words1.filter isCode = codes1 := rfl
theorem w_codes : ∀ c ∈ words1.filter isCode, c.before args0 about1 = true := by
  rw [codes_eq]
  intro c hc
  simp only [codes1, List.mem_cons, List.not_mem_nil, or_false] at hc
  rcases hc with rfl | rfl | rfl | rfl | rfl
  · exact w_c0
  · exact w_c1
  · exact w_c2
  · exact w_c3
  · exact w_c4
set_option maxRecDepth 65536 in
theorem w_t1 : (words1.take 24).all (fun c => isCode c || c.before args0 about1) = true := by decide +kernel
set_option maxRecDepth 65536 in
theorem w_t2 : (words1.drop 24).all (fun c => isCode c || c.before args0 about1) = true := by decide +kernel
theorem w_tables : (allAtoms (Jvm.Cond.code x code maxLocals ret :: tables_1)).before args0 about1 = true := by
  rw [allAtoms_all]
  show words1.all (fun c => c.before args0 about1) = true
  refine all_split ?_ w_codes
  rw [← List.take_append_drop 24 words1, List.all_append, w_t1, w_t2]
  rfl
set_option maxRecDepth 65536 in
theorem w_case : (Jvm.Cond.and given_1 narrow_1).before args0 about1 = true := by decide +kernel
theorem w_applies : (headSpec (Jvm.Cond.code x code maxLocals ret :: tables_1) room_1).applies x e0.platform about1 = true :=
  (Spec.applies_iff w_frames).mpr ⟨w_running, w_runnable, w_alone, w_named, w_hears, w_ripe, w_room, w_tables⟩
theorem atStart : AtStart classFile x code maxLocals ret World_1 tables_1 room_1 Calls_1 rest_1 Pre_1 launch0 p0 e0 about1 theMethod args0 below0 :=
  ⟨lists_1, trivial, launch0.admits_env _ _ _, launch0.least_env, fairChoices_fair.cas, fairChoices_fair.clock, w_frames, w_args, w_heap, w_applies, trivial, trivial, w_case⟩
end start1
theorem witness_1 : WitnessClaimed_1 := ⟨start1.p0, start1.e0, start1.about1, start1.theMethod, start1.args0, start1.below0, start1.atStart⟩
end Jvm.Pilot.@@N@@
