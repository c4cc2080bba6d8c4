import JvmDerived
import JvmDerived.Pilot.@@N@@Statement
import JvmDerived.Pilot.@@N@@Code
set_option linter.unusedVariables false
set_option linter.unusedSimpArgs false
namespace Jvm.Pilot.@@N@@
open Jvm Jvm.ClassFile Sem Op Lib Jvm.Free Jvm.Stand Jvm.LawKit Jvm.RoadKit Bundle Jvm.Pilot.@@N@@.Jvm.D
/-! the walk goes on from A and ends as P says -/
def OGo (tb : Tables) (e : Env) (below : List Frame) (P : State → Outcome → Prop) (A : State) : Prop := ∃ U o, Steps tb e below A U ∧ U.status = .running ∧ Ended U below o ∧ P U o
def OPost (s : State) (Q : Option Value → Heap → List Loc → Prop) (k n : Nat) (U : State) (o : Outcome) : Prop := ∃ v L, o = .returned v ∧ Q v U.heap L ∧ FrameEnd s o U L k n
theorem OGo.st {tb : Tables} {e : Env} {below : List Frame} {P : State → Outcome → Prop} {A B : State} (st : ∀ t, Steps tb e below B t → Steps tb e below A t) (h : OGo tb e below P B) : OGo tb e below P A := by
  obtain ⟨U, o, h1, h2⟩ := h; exact ⟨U, o, st _ h1, h2⟩
theorem OGo.tr {tb : Tables} {e : Env} {below : List Frame} {P : State → Outcome → Prop} {A B : State} (st : Steps tb e below A B) (h : OGo tb e below P B) : OGo tb e below P A := by
  obtain ⟨U, o, h1, h2⟩ := h; exact ⟨U, o, st.trans h1, h2⟩
theorem OGo.enter {tb : Tables} {e : Env} {below : List Frame} {P : State → Outcome → Prop} {T : State} {g g' : JFrame} (q : g = g') (h : OGo tb e below P (T.setTop g')) : OGo tb e below P (T.setTop g) := q ▸ h
section Own
variable {p : Program} {l : Launch} {e : Env} {R : Room} {s : State} {m : MethodId} {args : Array Value} {below : List Frame} {meth : Method} {c : Code} {T : State} {locs : List Loc} {cells slots k n : Nat} {Q : Option Value → Heap → List Loc → Prop}
theorem OGo.fin (X : Stand p l e R s m args below meth c T locs cells slots) {v : Option Value} (hv : meth.sig.returnType = none → v = none) (hlk : meth.locks = false) {g : JFrame}
    (hst : ∀ fs, (∀ (f : JFrame) (acts : List Action), f.method = m → f.locked = none → f.entered = [] → (doReturn e (T.setTop f) acts v).1 = T.setFrames fs) → Steps p.tables e below (T.setTop g) (T.setFrames fs)) (hq : Q v T.heap locs) (hk : cells ≤ k) (hn : slots ≤ n) : OGo p.tables e below (OPost s Q k n) (T.setTop g) := by
  obtain ⟨fs, hr, hrun, hended, hW, hsame⟩ := X.leave hv hlk
  exact ⟨_, _, hst fs hr, hrun, hended, _, _, rfl, hq, ⟨_, rfl⟩, hW, hsame.mono hk hn⟩
theorem own_wide (X : Stand p l e R s m args below meth c T locs cells slots) {k n : Nat} (hk : cells ≤ k) (hn : slots ≤ n) : Stand p l e R s m args below meth c T locs k n := { X with same := X.same.mono hk hn }
end Own
abbrev OMet (l : Launch) (Z : State) (y : MethodName) (code : ByteArray) (ml : Nat) (ret : Option FieldType) (ws : List Jvm.Cond) (rm : Room) (as : Array Value) (h0 : Heap) (Q : Option Value → Heap → List Loc → Prop) : Prop :=
  MetFree l y (head1 (Jvm.Cond.code y code ml ret :: ws) rm) (fun a U => a = as ∧ Z.Warmed39 U.vm ∧ U.heap = h0) (fun _ _ _ _ _ => True) (fun _ U o U' => ∃ v L, o = .returned v ∧ Q v U'.heap L ∧ FrameEnd U o U' L rm.cells rm.slots)
theorem own_nb {v : Int32} (h : v = 0 ∨ v = 1) : narrow .boolean (.int v) = .int v := by rcases h with rfl | rfl <;> rfl
def own_f15 (p1 : Int32) : Int32 := if p1 < 48 then 0 else if 57 < p1 then 0 else 1
def own_f14 (p1 : Int32) : Int32 := if p1 < 97 then (if p1 < 65 then (if own_f15 p1 = 0 then 0 else 1) else if 90 < p1 then (if own_f15 p1 = 0 then 0 else 1) else 1) else if 122 < p1 then (if p1 < 65 then (if own_f15 p1 = 0 then 0 else 1) else if 90 < p1 then (if own_f15 p1 = 0 then 0 else 1) else 1) else 1
def own_f3 (p1 : Int32) : Int32 := if (if p1 ||| 32 < 97 then (0 : Int32) else if 122 < p1 ||| 32 then 0 else 1) = 0 then (if (if p1 ^^^ 48 < 10 then (1 : Int32) else 0) = 0 then 0 else 1) else 1
theorem own_nat (z : Int32) (k : Nat) (h : z.toBitVec.toNat = k) (hk : k < 2 ^ 31) : z.toInt = k := by
  show z.toBitVec.toInt = k
  rw [BitVec.toInt_eq_toNat_of_lt (by omega), h]
theorem own_small : ∀ n : Fin 128, own_f14 (Int32.ofNat n.val) = own_f3 (Int32.ofNat n.val) := by decide +kernel
theorem own_big (z : Int32) (n : Nat) (h : z.toBitVec.toNat = n) (h1 : 128 ≤ n) (h2 : n < 65536) : own_f14 z = own_f3 z := by
  have e := own_nat z n h (by omega)
  have e1 : (z ||| 32).toInt = ((n ||| 32 : Nat) : Int) := own_nat _ _ (by rw [Int32.toBitVec_or, BitVec.toNat_or, h]; rfl) (Nat.or_lt_two_pow (n := 31) (by omega) (by omega))
  have e2 : (z ^^^ 48).toInt = ((n ^^^ 48 : Nat) : Int) := own_nat _ _ (by rw [Int32.toBitVec_xor, BitVec.toNat_xor, h]; rfl) (Nat.xor_lt_two_pow (n := 31) (by omega) (by omega))
  have g1 : n ≤ n ||| 32 := Nat.left_le_or
  have g2 : (n ^^^ 48) / 2 ^ 7 = n / 2 ^ 7 := by rw [Nat.xor_div_two_pow]; simp
  have g3 : 128 ≤ n ^^^ 48 := by omega
  have a1 : ¬ z < 97 := by rw [Int32.lt_iff_toInt_lt, e]; show ¬ ((n:Int) < 97); omega
  have a2 : 122 < z := by rw [Int32.lt_iff_toInt_lt, e]; show (122 < (n:Int)); omega
  have a3 : ¬ z < 65 := by rw [Int32.lt_iff_toInt_lt, e]; show ¬ ((n:Int) < 65); omega
  have a4 : 90 < z := by rw [Int32.lt_iff_toInt_lt, e]; show (90 < (n:Int)); omega
  have a5 : ¬ z < 48 := by rw [Int32.lt_iff_toInt_lt, e]; show ¬ ((n:Int) < 48); omega
  have a6 : 57 < z := by rw [Int32.lt_iff_toInt_lt, e]; show (57 < (n:Int)); omega
  have b1 : ¬ (z ||| 32) < 97 := by rw [Int32.lt_iff_toInt_lt, e1]; show ¬ (((n ||| 32 : Nat):Int) < 97); omega
  have b2 : 122 < (z ||| 32) := by rw [Int32.lt_iff_toInt_lt, e1]; show 122 < ((n ||| 32 : Nat):Int); omega
  have b3 : ¬ (z ^^^ 48) < 10 := by rw [Int32.lt_iff_toInt_lt, e2]; show ¬ (((n ^^^ 48 : Nat):Int) < 10); omega
  simp [own_f14, own_f3, own_f15, a1, a2, a3, a4, a5, a6, b1, b2, b3]
theorem own_plain (x : Int32) : own_f14 x.toUInt32.toUInt16.toUInt32.toInt32 = own_f3 x.toUInt32.toUInt16.toUInt32.toInt32 := by
  generalize x.toUInt32.toUInt16 = y
  have h : y.toUInt32.toInt32.toBitVec.toNat = y.toNat := by show (BitVec.setWidth 32 y.toBitVec).toNat = _; rw [BitVec.toNat_setWidth]; exact Nat.mod_eq_of_lt (Nat.lt_trans y.toBitVec.isLt (by decide))
  have hy : y.toNat < 65536 := y.toBitVec.isLt
  by_cases q : y.toNat < 128
  · have e : y.toUInt32.toInt32 = Int32.ofNat y.toNat := by apply Int32.toBitVec_inj.mp; apply BitVec.eq_of_toNat_eq; rw [h]; show _ = (BitVec.ofNat 32 y.toNat).toNat; rw [BitVec.toNat_ofNat]; exact (Nat.mod_eq_of_lt (by omega)).symm
    rw [e]; exact own_small ⟨_, q⟩
  · exact own_big _ _ h (by omega) hy
theorem own_d_prog_21_method_15_code_0 : decode prog_21_method_15_code 0 = .ok (.iload_n 0, 1) := by decide +kernel
theorem own_d_prog_21_method_15_code_1 : decode prog_21_method_15_code 1 = .ok (.bipush 48, 2) := by decide +kernel
theorem own_d_prog_21_method_15_code_3 : decode prog_21_method_15_code 3 = .ok (.if_icmp .lt 13, 3) := by decide +kernel
theorem own_d_prog_21_method_15_code_16 : decode prog_21_method_15_code 16 = .ok (.iconst 0, 1) := by decide +kernel
theorem own_d_prog_21_method_15_code_17 : decode prog_21_method_15_code 17 = .ok (.ireturn, 1) := by decide +kernel
theorem own_d_prog_21_method_15_code_6 : decode prog_21_method_15_code 6 = .ok (.iload_n 0, 1) := by decide +kernel
theorem own_d_prog_21_method_15_code_7 : decode prog_21_method_15_code 7 = .ok (.bipush 57, 2) := by decide +kernel
theorem own_d_prog_21_method_15_code_9 : decode prog_21_method_15_code 9 = .ok (.if_icmp .gt 7, 3) := by decide +kernel
theorem own_d_prog_21_method_15_code_12 : decode prog_21_method_15_code 12 = .ok (.iconst 1, 1) := by decide +kernel
theorem own_d_prog_21_method_15_code_13 : decode prog_21_method_15_code 13 = .ok (.goto 4, 3) := by decide +kernel
theorem own_pn0 : plainName "com/example/formwright/formwright/InputKind" = true := by first | (simp [plainName, overriddenIn]; done) | decide +kernel
theorem own_ef_rm2 (m : MethodId) (x0 : Int32) : entryFrame m #[(.int x0)] 1 = mkF m 0 #[.val (.int x0)] [] := by first | (simp [entryFrame, mkF, argsToLocals, Value.category]; done) | rfl
def own_Q_rm2 (Z : State) (p1 : Int32) (h0 : Heap) (n0 : Nat) (v : Option Value) (h : Heap) (L : List Loc) : Prop := v = some (.int (own_f15 p1)) ∧ Fr n0 L ∧ h = h0
set_option maxRecDepth 65536 in
set_option maxHeartbeats 40000000 in
theorem rm2 (l : Launch) (Z : State) (a0 : Array Value) (hw : ∀ d ∈ tables_1, d.before a0 Z = true) (ws : List Jvm.Cond) (p1 : Int32) (h0 : Heap) (n0 : Nat) (Z0 : n0 ≤ h0.size)  :
    OMet l Z (⟨"com/example/formwright/formwright/InputKind", "isAsciiDigit", "(C)Z"⟩ : MethodName) prog_21_method_15_code 1 (some .boolean) ws ({ frames := 0, cells := 0, slots := 0, locals := 0 } : Room) #[(.int p1)] h0 (own_Q_rm2 Z p1 h0 n0) := by
  refine MetFree.of_bodySF (plainFor_of_name own_pn0) hisR ?_
  intro p e s m args below meth c s₁ Bd hml0 hP hK
  obtain ⟨rfl, hZ, hh⟩ := hP
  have hx := Bd.exec
  have hby := Bd.bytes
  have hml : c.maxLocals = 1 := hml0
  have hown : s.vm.findClass "com/example/formwright/formwright/InputKind" = some m.cls := findClass_of_methodNamed Bd.named
  have hnm := (name_of_methodNamed Bd.named Bd.method).1
  have hlk : meth.locks = false := Bd.notSynchronized
  have X0 : Stand p l e ({ frames := 0, cells := 0, slots := 0, locals := 0 } : Room) s m #[(.int p1)] below meth c s₁ [] 0 0 := Stand.of_body Bd
  have e0 : s₁.heap = h0 := by rw [← hh, Bd.state]; rfl
  have N0 := Fr.nil n0
  refine OGo.enter (P := OPost s (own_Q_rm2 Z p1 h0 n0) 0 0) (own_ef_rm2 m p1) ?_
  show OGo p.tables e below _ (s₁.setTop (mkF m 0 #[.val (.int p1)] []))
  refine OGo.st (fun _ k_ => XS.iloadN X0.here hx rfl (hb hby own_d_prog_21_method_15_code_0) rfl k_) ?_
  show OGo p.tables e below _ (s₁.setTop (mkF m 1 #[.val (.int p1)] [(.int p1)]))
  refine OGo.st (fun _ k_ => XS.bipush X0.here hx rfl (hb hby own_d_prog_21_method_15_code_1) k_) ?_
  show OGo p.tables e below _ (s₁.setTop (mkF m 3 #[.val (.int p1)] [(.int (48 : Int32)), (.int p1)]))
  by_cases hc3 : p1 < (48 : Int32)
  · refine OGo.st (fun _ k_ => XS.icmpYes X0.here hx rfl (pc0 := 3) (pc' := 16) rfl (hb hby own_d_prog_21_method_15_code_3) rfl (XT.ii_lt_t hc3) (by decide) (by decide) k_) ?_
    show OGo p.tables e below _ (s₁.setTop (mkF m 16 #[.val (.int p1)] []))
    refine OGo.st (fun _ k_ => XS.iconst X0.here hx rfl (hb hby own_d_prog_21_method_15_code_16) k_) ?_
    show OGo p.tables e below _ (s₁.setTop (mkF m 17 #[.val (.int p1)] [(.int (0 : Int32))]))
    refine OGo.fin X0 (v := some (.int (0 : Int32))) (fun h => by rw [Bd.returns] at h; cases h) hlk (fun fs hr => X0.ireturnOut hx Bd.returns rfl (by simp) (hb hby own_d_prog_21_method_15_code_17) hr) ?_ (by decide) (by decide)
    show own_Q_rm2 Z p1 h0 n0 _ s₁.heap _
    rw [e0]
    exact ⟨by simp [own_f15, hc3], N0, rfl⟩
  · refine OGo.st (fun _ k_ => XS.icmpNo X0.here hx rfl (hb hby own_d_prog_21_method_15_code_3) rfl (XT.ii_lt_f hc3) k_) ?_
    show OGo p.tables e below _ (s₁.setTop (mkF m 6 #[.val (.int p1)] []))
    refine OGo.st (fun _ k_ => XS.iloadN X0.here hx rfl (hb hby own_d_prog_21_method_15_code_6) rfl k_) ?_
    show OGo p.tables e below _ (s₁.setTop (mkF m 7 #[.val (.int p1)] [(.int p1)]))
    refine OGo.st (fun _ k_ => XS.bipush X0.here hx rfl (hb hby own_d_prog_21_method_15_code_7) k_) ?_
    show OGo p.tables e below _ (s₁.setTop (mkF m 9 #[.val (.int p1)] [(.int (57 : Int32)), (.int p1)]))
    by_cases hc9 : (57 : Int32) < p1
    · refine OGo.st (fun _ k_ => XS.icmpYes X0.here hx rfl (pc0 := 9) (pc' := 16) rfl (hb hby own_d_prog_21_method_15_code_9) rfl (XT.ii_gt_t hc9) (by decide) (by decide) k_) ?_
      show OGo p.tables e below _ (s₁.setTop (mkF m 16 #[.val (.int p1)] []))
      refine OGo.st (fun _ k_ => XS.iconst X0.here hx rfl (hb hby own_d_prog_21_method_15_code_16) k_) ?_
      show OGo p.tables e below _ (s₁.setTop (mkF m 17 #[.val (.int p1)] [(.int (0 : Int32))]))
      refine OGo.fin X0 (v := some (.int (0 : Int32))) (fun h => by rw [Bd.returns] at h; cases h) hlk (fun fs hr => X0.ireturnOut hx Bd.returns rfl (by simp) (hb hby own_d_prog_21_method_15_code_17) hr) ?_ (by decide) (by decide)
      show own_Q_rm2 Z p1 h0 n0 _ s₁.heap _
      rw [e0]
      exact ⟨by simp [own_f15, hc3, hc9], N0, rfl⟩
    · refine OGo.st (fun _ k_ => XS.icmpNo X0.here hx rfl (hb hby own_d_prog_21_method_15_code_9) rfl (XT.ii_gt_f hc9) k_) ?_
      show OGo p.tables e below _ (s₁.setTop (mkF m 12 #[.val (.int p1)] []))
      refine OGo.st (fun _ k_ => XS.iconst X0.here hx rfl (hb hby own_d_prog_21_method_15_code_12) k_) ?_
      show OGo p.tables e below _ (s₁.setTop (mkF m 13 #[.val (.int p1)] [(.int (1 : Int32))]))
      refine OGo.st (fun _ k_ => XS.goto X0.here hx rfl (pc0 := 13) (pc' := 17) rfl (hb hby own_d_prog_21_method_15_code_13) (by decide) (by decide) k_) ?_
      show OGo p.tables e below _ (s₁.setTop (mkF m 17 #[.val (.int p1)] [(.int (1 : Int32))]))
      refine OGo.fin X0 (v := some (.int (1 : Int32))) (fun h => by rw [Bd.returns] at h; cases h) hlk (fun fs hr => X0.ireturnOut hx Bd.returns rfl (by simp) (hb hby own_d_prog_21_method_15_code_17) hr) ?_ (by decide) (by decide)
      show own_Q_rm2 Z p1 h0 n0 _ s₁.heap _
      rw [e0]
      exact ⟨by simp [own_f15, hc3, hc9], N0, rfl⟩
theorem own_d_prog_21_method_14_code_0 : decode prog_21_method_14_code 0 = .ok (.iload_n 0, 1) := by decide +kernel
theorem own_d_prog_21_method_14_code_1 : decode prog_21_method_14_code 1 = .ok (.bipush 97, 2) := by decide +kernel
theorem own_d_prog_21_method_14_code_3 : decode prog_21_method_14_code 3 = .ok (.if_icmp .lt 9, 3) := by decide +kernel
theorem own_d_prog_21_method_14_code_12 : decode prog_21_method_14_code 12 = .ok (.iload_n 0, 1) := by decide +kernel
theorem own_d_prog_21_method_14_code_13 : decode prog_21_method_14_code 13 = .ok (.bipush 65, 2) := by decide +kernel
theorem own_d_prog_21_method_14_code_15 : decode prog_21_method_14_code 15 = .ok (.if_icmp .lt 9, 3) := by decide +kernel
theorem own_d_prog_21_method_14_code_24 : decode prog_21_method_14_code 24 = .ok (.iload_n 0, 1) := by decide +kernel
theorem own_d_prog_21_method_14_code_25 : decode prog_21_method_14_code 25 = .ok (.invokestatic 139, 3) := by decide +kernel
theorem own_pd0 : parseMethodDescriptor "(C)Z" = some ⟨[.char], some .boolean⟩ := by decide +kernel
theorem own_d_prog_21_method_14_code_28 : decode prog_21_method_14_code 28 = .ok (.ifCond .eq 7, 3) := by decide +kernel
theorem own_d_prog_21_method_14_code_35 : decode prog_21_method_14_code 35 = .ok (.iconst 0, 1) := by decide +kernel
theorem own_d_prog_21_method_14_code_36 : decode prog_21_method_14_code 36 = .ok (.ireturn, 1) := by decide +kernel
theorem own_d_prog_21_method_14_code_31 : decode prog_21_method_14_code 31 = .ok (.iconst 1, 1) := by decide +kernel
theorem own_d_prog_21_method_14_code_32 : decode prog_21_method_14_code 32 = .ok (.goto 4, 3) := by decide +kernel
theorem own_d_prog_21_method_14_code_18 : decode prog_21_method_14_code 18 = .ok (.iload_n 0, 1) := by decide +kernel
theorem own_d_prog_21_method_14_code_19 : decode prog_21_method_14_code 19 = .ok (.bipush 90, 2) := by decide +kernel
theorem own_d_prog_21_method_14_code_21 : decode prog_21_method_14_code 21 = .ok (.if_icmp .le 10, 3) := by decide +kernel
theorem own_d_prog_21_method_14_code_6 : decode prog_21_method_14_code 6 = .ok (.iload_n 0, 1) := by decide +kernel
theorem own_d_prog_21_method_14_code_7 : decode prog_21_method_14_code 7 = .ok (.bipush 122, 2) := by decide +kernel
theorem own_d_prog_21_method_14_code_9 : decode prog_21_method_14_code 9 = .ok (.if_icmp .le 22, 3) := by decide +kernel
theorem own_ef_rm1 (m : MethodId) (x0 : Int32) : entryFrame m #[(.int x0)] 1 = mkF m 0 #[.val (.int x0)] [] := by first | (simp [entryFrame, mkF, argsToLocals, Value.category]; done) | rfl
def own_Q_rm1 (Z : State) (p1 : Int32) (h0 : Heap) (n0 : Nat) (v : Option Value) (h : Heap) (L : List Loc) : Prop := v = some (.int (own_f14 p1)) ∧ Fr n0 L ∧ h = h0
set_option maxRecDepth 65536 in
set_option maxHeartbeats 40000000 in
theorem rm1 (l : Launch) (Z : State) (a0 : Array Value) (hw : ∀ d ∈ tables_1, d.before a0 Z = true) (ws : List Jvm.Cond) (p1 : Int32) (h0 : Heap) (n0 : Nat) (Z0 : n0 ≤ h0.size)  :
    OMet l Z (⟨"com/example/formwright/formwright/InputKind", "isAsciiLetterOrDigit", "(C)Z"⟩ : MethodName) prog_21_method_14_code 1 (some .boolean) ws ({ frames := 1, cells := 0, slots := 0, locals := 12 } : Room) #[(.int p1)] h0 (own_Q_rm1 Z p1 h0 n0) := by
  refine MetFree.of_bodySF (plainFor_of_name own_pn0) hisR ?_
  intro p e s m args below meth c s₁ Bd hml0 hP hK
  obtain ⟨rfl, hZ, hh⟩ := hP
  have hx := Bd.exec
  have hby := Bd.bytes
  have hml : c.maxLocals = 1 := hml0
  have hown : s.vm.findClass "com/example/formwright/formwright/InputKind" = some m.cls := findClass_of_methodNamed Bd.named
  have hnm := (name_of_methodNamed Bd.named Bd.method).1
  have hlk : meth.locks = false := Bd.notSynchronized
  have X0 : Stand p l e ({ frames := 1, cells := 0, slots := 0, locals := 12 } : Room) s m #[(.int p1)] below meth c s₁ [] 0 0 := Stand.of_body Bd
  have e0 : s₁.heap = h0 := by rw [← hh, Bd.state]; rfl
  have N0 := Fr.nil n0
  refine OGo.enter (P := OPost s (own_Q_rm1 Z p1 h0 n0) 0 0) (own_ef_rm1 m p1) ?_
  show OGo p.tables e below _ (s₁.setTop (mkF m 0 #[.val (.int p1)] []))
  refine OGo.st (fun _ k_ => XS.iloadN X0.here hx rfl (hb hby own_d_prog_21_method_14_code_0) rfl k_) ?_
  show OGo p.tables e below _ (s₁.setTop (mkF m 1 #[.val (.int p1)] [(.int p1)]))
  refine OGo.st (fun _ k_ => XS.bipush X0.here hx rfl (hb hby own_d_prog_21_method_14_code_1) k_) ?_
  show OGo p.tables e below _ (s₁.setTop (mkF m 3 #[.val (.int p1)] [(.int (97 : Int32)), (.int p1)]))
  by_cases hc3 : p1 < (97 : Int32)
  · refine OGo.st (fun _ k_ => XS.icmpYes X0.here hx rfl (pc0 := 3) (pc' := 12) rfl (hb hby own_d_prog_21_method_14_code_3) rfl (XT.ii_lt_t hc3) (by decide) (by decide) k_) ?_
    show OGo p.tables e below _ (s₁.setTop (mkF m 12 #[.val (.int p1)] []))
    refine OGo.st (fun _ k_ => XS.iloadN X0.here hx rfl (hb hby own_d_prog_21_method_14_code_12) rfl k_) ?_
    show OGo p.tables e below _ (s₁.setTop (mkF m 13 #[.val (.int p1)] [(.int p1)]))
    refine OGo.st (fun _ k_ => XS.bipush X0.here hx rfl (hb hby own_d_prog_21_method_14_code_13) k_) ?_
    show OGo p.tables e below _ (s₁.setTop (mkF m 15 #[.val (.int p1)] [(.int (65 : Int32)), (.int p1)]))
    by_cases hc15 : p1 < (65 : Int32)
    · refine OGo.st (fun _ k_ => XS.icmpYes X0.here hx rfl (pc0 := 15) (pc' := 24) rfl (hb hby own_d_prog_21_method_14_code_15) rfl (XT.ii_lt_t hc15) (by decide) (by decide) k_) ?_
      show OGo p.tables e below _ (s₁.setTop (mkF m 24 #[.val (.int p1)] []))
      refine OGo.st (fun _ k_ => XS.iloadN X0.here hx rfl (hb hby own_d_prog_21_method_14_code_24) rfl k_) ?_
      show OGo p.tables e below _ (s₁.setTop (mkF m 25 #[.val (.int p1)] [(.int p1)]))
      obtain ⟨_, _, ⟨T1, Lz1, kz1, nz1⟩, -, X1, ⟨Lc1, hQ1, lz1, yz1, zz1⟩, st1⟩ := Jvm.LawKit.callS X0 hx (y := (⟨"com/example/formwright/formwright/InputKind", "isAsciiDigit", "(C)Z"⟩ : MethodName)) hown (mvT hZ (hw _ (List.mem_of_getElem? (i := 4) rfl))) (mvT hZ (hw _ (List.mem_of_getElem? (i := 5) rfl))) (mvT hZ (hw _ (List.mem_of_getElem? (i := 2) rfl))) (mvT hZ (hw _ (List.mem_of_getElem? (i := 6) rfl))) (by decide) (backOf (W := 0) (rm2 l Z a0 hw [] p1 h0 n0 (Nat.le_trans Z0 (Keep.refl h0 []).1) ) hZ (hw _ (List.mem_of_getElem? (i := 6) rfl)) (hw _ (List.mem_of_getElem? (i := 2) rfl)) (by decide) (by decide)) (g := (mkF m 25 #[.val (.int p1)] [(.int p1)])) rfl (by rw [hml]; rfl) (argsL := [(.int p1)]) (rest := []) (lenOf own_pd0 rfl) rfl (by show 2 * 0 + _ ≤ _; exact Nat.le_of_eq rfl) (hb hby own_d_prog_21_method_14_code_25) (fun _ _ => ⟨rfl, e0, (by decide : 0 + 0 ≤ _), (by decide : 0 + 0 ≤ _)⟩)
      dsimp only [Pt.U, Pt.locs, Pt.cells, Pt.slots] at X1 lz1 yz1 zz1 st1 hQ1
      subst lz1 yz1 zz1
      obtain ⟨rfl, Nq1, ez1⟩ := hQ1
      have N1 := Fr.app N0 Nq1
      refine OGo.st st1 ?_
      show OGo p.tables e below _ (T1.setTop (mkF m 28 #[.val (.int p1)] [(.int (own_f15 p1))]))
      by_cases hc28 : (own_f15 p1) = 0
      · refine OGo.st (fun _ k_ => XS.ifYes X1.here hx rfl (pc0 := 28) (pc' := 35) rfl (hb hby own_d_prog_21_method_14_code_28) rfl (XT.i0_eq_t hc28) (by decide) (by decide) k_) ?_
        show OGo p.tables e below _ (T1.setTop (mkF m 35 #[.val (.int p1)] []))
        refine OGo.st (fun _ k_ => XS.iconst X1.here hx rfl (hb hby own_d_prog_21_method_14_code_35) k_) ?_
        show OGo p.tables e below _ (T1.setTop (mkF m 36 #[.val (.int p1)] [(.int (0 : Int32))]))
        refine OGo.fin X1 (v := some (.int (0 : Int32))) (fun h => by rw [Bd.returns] at h; cases h) hlk (fun fs hr => X1.ireturnOut hx Bd.returns rfl (by simp) (hb hby own_d_prog_21_method_14_code_36) hr) ?_ (by decide) (by decide)
        show own_Q_rm1 Z p1 h0 n0 _ T1.heap _
        rw [ez1]
        exact ⟨by simp [own_f14, hc3, hc15, hc28], N1, rfl⟩
      · refine OGo.st (fun _ k_ => XS.ifNo X1.here hx rfl (hb hby own_d_prog_21_method_14_code_28) rfl (XT.i0_eq_f hc28) k_) ?_
        show OGo p.tables e below _ (T1.setTop (mkF m 31 #[.val (.int p1)] []))
        refine OGo.st (fun _ k_ => XS.iconst X1.here hx rfl (hb hby own_d_prog_21_method_14_code_31) k_) ?_
        show OGo p.tables e below _ (T1.setTop (mkF m 32 #[.val (.int p1)] [(.int (1 : Int32))]))
        refine OGo.st (fun _ k_ => XS.goto X1.here hx rfl (pc0 := 32) (pc' := 36) rfl (hb hby own_d_prog_21_method_14_code_32) (by decide) (by decide) k_) ?_
        show OGo p.tables e below _ (T1.setTop (mkF m 36 #[.val (.int p1)] [(.int (1 : Int32))]))
        refine OGo.fin X1 (v := some (.int (1 : Int32))) (fun h => by rw [Bd.returns] at h; cases h) hlk (fun fs hr => X1.ireturnOut hx Bd.returns rfl (by simp) (hb hby own_d_prog_21_method_14_code_36) hr) ?_ (by decide) (by decide)
        show own_Q_rm1 Z p1 h0 n0 _ T1.heap _
        rw [ez1]
        exact ⟨by simp [own_f14, hc3, hc15, hc28], N1, rfl⟩
    · refine OGo.st (fun _ k_ => XS.icmpNo X0.here hx rfl (hb hby own_d_prog_21_method_14_code_15) rfl (XT.ii_lt_f hc15) k_) ?_
      show OGo p.tables e below _ (s₁.setTop (mkF m 18 #[.val (.int p1)] []))
      refine OGo.st (fun _ k_ => XS.iloadN X0.here hx rfl (hb hby own_d_prog_21_method_14_code_18) rfl k_) ?_
      show OGo p.tables e below _ (s₁.setTop (mkF m 19 #[.val (.int p1)] [(.int p1)]))
      refine OGo.st (fun _ k_ => XS.bipush X0.here hx rfl (hb hby own_d_prog_21_method_14_code_19) k_) ?_
      show OGo p.tables e below _ (s₁.setTop (mkF m 21 #[.val (.int p1)] [(.int (90 : Int32)), (.int p1)]))
      by_cases hc21 : (90 : Int32) < p1
      · refine OGo.st (fun _ k_ => XS.icmpNo X0.here hx rfl (hb hby own_d_prog_21_method_14_code_21) rfl (XT.ii_le_f hc21) k_) ?_
        show OGo p.tables e below _ (s₁.setTop (mkF m 24 #[.val (.int p1)] []))
        refine OGo.st (fun _ k_ => XS.iloadN X0.here hx rfl (hb hby own_d_prog_21_method_14_code_24) rfl k_) ?_
        show OGo p.tables e below _ (s₁.setTop (mkF m 25 #[.val (.int p1)] [(.int p1)]))
        obtain ⟨_, _, ⟨T2, Lz2, kz2, nz2⟩, -, X2, ⟨Lc2, hQ2, lz2, yz2, zz2⟩, st2⟩ := Jvm.LawKit.callS X0 hx (y := (⟨"com/example/formwright/formwright/InputKind", "isAsciiDigit", "(C)Z"⟩ : MethodName)) hown (mvT hZ (hw _ (List.mem_of_getElem? (i := 4) rfl))) (mvT hZ (hw _ (List.mem_of_getElem? (i := 5) rfl))) (mvT hZ (hw _ (List.mem_of_getElem? (i := 2) rfl))) (mvT hZ (hw _ (List.mem_of_getElem? (i := 6) rfl))) (by decide) (backOf (W := 0) (rm2 l Z a0 hw [] p1 h0 n0 (Nat.le_trans Z0 (Keep.refl h0 []).1) ) hZ (hw _ (List.mem_of_getElem? (i := 6) rfl)) (hw _ (List.mem_of_getElem? (i := 2) rfl)) (by decide) (by decide)) (g := (mkF m 25 #[.val (.int p1)] [(.int p1)])) rfl (by rw [hml]; rfl) (argsL := [(.int p1)]) (rest := []) (lenOf own_pd0 rfl) rfl (by show 2 * 0 + _ ≤ _; exact Nat.le_of_eq rfl) (hb hby own_d_prog_21_method_14_code_25) (fun _ _ => ⟨rfl, e0, (by decide : 0 + 0 ≤ _), (by decide : 0 + 0 ≤ _)⟩)
        dsimp only [Pt.U, Pt.locs, Pt.cells, Pt.slots] at X2 lz2 yz2 zz2 st2 hQ2
        subst lz2 yz2 zz2
        obtain ⟨rfl, Nq2, ez2⟩ := hQ2
        have N2 := Fr.app N0 Nq2
        refine OGo.st st2 ?_
        show OGo p.tables e below _ (T2.setTop (mkF m 28 #[.val (.int p1)] [(.int (own_f15 p1))]))
        by_cases hc28 : (own_f15 p1) = 0
        · refine OGo.st (fun _ k_ => XS.ifYes X2.here hx rfl (pc0 := 28) (pc' := 35) rfl (hb hby own_d_prog_21_method_14_code_28) rfl (XT.i0_eq_t hc28) (by decide) (by decide) k_) ?_
          show OGo p.tables e below _ (T2.setTop (mkF m 35 #[.val (.int p1)] []))
          refine OGo.st (fun _ k_ => XS.iconst X2.here hx rfl (hb hby own_d_prog_21_method_14_code_35) k_) ?_
          show OGo p.tables e below _ (T2.setTop (mkF m 36 #[.val (.int p1)] [(.int (0 : Int32))]))
          refine OGo.fin X2 (v := some (.int (0 : Int32))) (fun h => by rw [Bd.returns] at h; cases h) hlk (fun fs hr => X2.ireturnOut hx Bd.returns rfl (by simp) (hb hby own_d_prog_21_method_14_code_36) hr) ?_ (by decide) (by decide)
          show own_Q_rm1 Z p1 h0 n0 _ T2.heap _
          rw [ez2]
          exact ⟨by simp [own_f14, hc3, hc15, hc21, hc28], N2, rfl⟩
        · refine OGo.st (fun _ k_ => XS.ifNo X2.here hx rfl (hb hby own_d_prog_21_method_14_code_28) rfl (XT.i0_eq_f hc28) k_) ?_
          show OGo p.tables e below _ (T2.setTop (mkF m 31 #[.val (.int p1)] []))
          refine OGo.st (fun _ k_ => XS.iconst X2.here hx rfl (hb hby own_d_prog_21_method_14_code_31) k_) ?_
          show OGo p.tables e below _ (T2.setTop (mkF m 32 #[.val (.int p1)] [(.int (1 : Int32))]))
          refine OGo.st (fun _ k_ => XS.goto X2.here hx rfl (pc0 := 32) (pc' := 36) rfl (hb hby own_d_prog_21_method_14_code_32) (by decide) (by decide) k_) ?_
          show OGo p.tables e below _ (T2.setTop (mkF m 36 #[.val (.int p1)] [(.int (1 : Int32))]))
          refine OGo.fin X2 (v := some (.int (1 : Int32))) (fun h => by rw [Bd.returns] at h; cases h) hlk (fun fs hr => X2.ireturnOut hx Bd.returns rfl (by simp) (hb hby own_d_prog_21_method_14_code_36) hr) ?_ (by decide) (by decide)
          show own_Q_rm1 Z p1 h0 n0 _ T2.heap _
          rw [ez2]
          exact ⟨by simp [own_f14, hc3, hc15, hc21, hc28], N2, rfl⟩
      · refine OGo.st (fun _ k_ => XS.icmpYes X0.here hx rfl (pc0 := 21) (pc' := 31) rfl (hb hby own_d_prog_21_method_14_code_21) rfl (XT.ii_le_t hc21) (by decide) (by decide) k_) ?_
        show OGo p.tables e below _ (s₁.setTop (mkF m 31 #[.val (.int p1)] []))
        refine OGo.st (fun _ k_ => XS.iconst X0.here hx rfl (hb hby own_d_prog_21_method_14_code_31) k_) ?_
        show OGo p.tables e below _ (s₁.setTop (mkF m 32 #[.val (.int p1)] [(.int (1 : Int32))]))
        refine OGo.st (fun _ k_ => XS.goto X0.here hx rfl (pc0 := 32) (pc' := 36) rfl (hb hby own_d_prog_21_method_14_code_32) (by decide) (by decide) k_) ?_
        show OGo p.tables e below _ (s₁.setTop (mkF m 36 #[.val (.int p1)] [(.int (1 : Int32))]))
        refine OGo.fin X0 (v := some (.int (1 : Int32))) (fun h => by rw [Bd.returns] at h; cases h) hlk (fun fs hr => X0.ireturnOut hx Bd.returns rfl (by simp) (hb hby own_d_prog_21_method_14_code_36) hr) ?_ (by decide) (by decide)
        show own_Q_rm1 Z p1 h0 n0 _ s₁.heap _
        rw [e0]
        exact ⟨by simp [own_f14, hc3, hc15, hc21], N0, rfl⟩
  · refine OGo.st (fun _ k_ => XS.icmpNo X0.here hx rfl (hb hby own_d_prog_21_method_14_code_3) rfl (XT.ii_lt_f hc3) k_) ?_
    show OGo p.tables e below _ (s₁.setTop (mkF m 6 #[.val (.int p1)] []))
    refine OGo.st (fun _ k_ => XS.iloadN X0.here hx rfl (hb hby own_d_prog_21_method_14_code_6) rfl k_) ?_
    show OGo p.tables e below _ (s₁.setTop (mkF m 7 #[.val (.int p1)] [(.int p1)]))
    refine OGo.st (fun _ k_ => XS.bipush X0.here hx rfl (hb hby own_d_prog_21_method_14_code_7) k_) ?_
    show OGo p.tables e below _ (s₁.setTop (mkF m 9 #[.val (.int p1)] [(.int (122 : Int32)), (.int p1)]))
    by_cases hc9 : (122 : Int32) < p1
    · refine OGo.st (fun _ k_ => XS.icmpNo X0.here hx rfl (hb hby own_d_prog_21_method_14_code_9) rfl (XT.ii_le_f hc9) k_) ?_
      show OGo p.tables e below _ (s₁.setTop (mkF m 12 #[.val (.int p1)] []))
      refine OGo.st (fun _ k_ => XS.iloadN X0.here hx rfl (hb hby own_d_prog_21_method_14_code_12) rfl k_) ?_
      show OGo p.tables e below _ (s₁.setTop (mkF m 13 #[.val (.int p1)] [(.int p1)]))
      refine OGo.st (fun _ k_ => XS.bipush X0.here hx rfl (hb hby own_d_prog_21_method_14_code_13) k_) ?_
      show OGo p.tables e below _ (s₁.setTop (mkF m 15 #[.val (.int p1)] [(.int (65 : Int32)), (.int p1)]))
      by_cases hc15 : p1 < (65 : Int32)
      · refine OGo.st (fun _ k_ => XS.icmpYes X0.here hx rfl (pc0 := 15) (pc' := 24) rfl (hb hby own_d_prog_21_method_14_code_15) rfl (XT.ii_lt_t hc15) (by decide) (by decide) k_) ?_
        show OGo p.tables e below _ (s₁.setTop (mkF m 24 #[.val (.int p1)] []))
        refine OGo.st (fun _ k_ => XS.iloadN X0.here hx rfl (hb hby own_d_prog_21_method_14_code_24) rfl k_) ?_
        show OGo p.tables e below _ (s₁.setTop (mkF m 25 #[.val (.int p1)] [(.int p1)]))
        obtain ⟨_, _, ⟨T3, Lz3, kz3, nz3⟩, -, X3, ⟨Lc3, hQ3, lz3, yz3, zz3⟩, st3⟩ := Jvm.LawKit.callS X0 hx (y := (⟨"com/example/formwright/formwright/InputKind", "isAsciiDigit", "(C)Z"⟩ : MethodName)) hown (mvT hZ (hw _ (List.mem_of_getElem? (i := 4) rfl))) (mvT hZ (hw _ (List.mem_of_getElem? (i := 5) rfl))) (mvT hZ (hw _ (List.mem_of_getElem? (i := 2) rfl))) (mvT hZ (hw _ (List.mem_of_getElem? (i := 6) rfl))) (by decide) (backOf (W := 0) (rm2 l Z a0 hw [] p1 h0 n0 (Nat.le_trans Z0 (Keep.refl h0 []).1) ) hZ (hw _ (List.mem_of_getElem? (i := 6) rfl)) (hw _ (List.mem_of_getElem? (i := 2) rfl)) (by decide) (by decide)) (g := (mkF m 25 #[.val (.int p1)] [(.int p1)])) rfl (by rw [hml]; rfl) (argsL := [(.int p1)]) (rest := []) (lenOf own_pd0 rfl) rfl (by show 2 * 0 + _ ≤ _; exact Nat.le_of_eq rfl) (hb hby own_d_prog_21_method_14_code_25) (fun _ _ => ⟨rfl, e0, (by decide : 0 + 0 ≤ _), (by decide : 0 + 0 ≤ _)⟩)
        dsimp only [Pt.U, Pt.locs, Pt.cells, Pt.slots] at X3 lz3 yz3 zz3 st3 hQ3
        subst lz3 yz3 zz3
        obtain ⟨rfl, Nq3, ez3⟩ := hQ3
        have N3 := Fr.app N0 Nq3
        refine OGo.st st3 ?_
        show OGo p.tables e below _ (T3.setTop (mkF m 28 #[.val (.int p1)] [(.int (own_f15 p1))]))
        by_cases hc28 : (own_f15 p1) = 0
        · refine OGo.st (fun _ k_ => XS.ifYes X3.here hx rfl (pc0 := 28) (pc' := 35) rfl (hb hby own_d_prog_21_method_14_code_28) rfl (XT.i0_eq_t hc28) (by decide) (by decide) k_) ?_
          show OGo p.tables e below _ (T3.setTop (mkF m 35 #[.val (.int p1)] []))
          refine OGo.st (fun _ k_ => XS.iconst X3.here hx rfl (hb hby own_d_prog_21_method_14_code_35) k_) ?_
          show OGo p.tables e below _ (T3.setTop (mkF m 36 #[.val (.int p1)] [(.int (0 : Int32))]))
          refine OGo.fin X3 (v := some (.int (0 : Int32))) (fun h => by rw [Bd.returns] at h; cases h) hlk (fun fs hr => X3.ireturnOut hx Bd.returns rfl (by simp) (hb hby own_d_prog_21_method_14_code_36) hr) ?_ (by decide) (by decide)
          show own_Q_rm1 Z p1 h0 n0 _ T3.heap _
          rw [ez3]
          exact ⟨by simp [own_f14, hc3, hc9, hc15, hc28], N3, rfl⟩
        · refine OGo.st (fun _ k_ => XS.ifNo X3.here hx rfl (hb hby own_d_prog_21_method_14_code_28) rfl (XT.i0_eq_f hc28) k_) ?_
          show OGo p.tables e below _ (T3.setTop (mkF m 31 #[.val (.int p1)] []))
          refine OGo.st (fun _ k_ => XS.iconst X3.here hx rfl (hb hby own_d_prog_21_method_14_code_31) k_) ?_
          show OGo p.tables e below _ (T3.setTop (mkF m 32 #[.val (.int p1)] [(.int (1 : Int32))]))
          refine OGo.st (fun _ k_ => XS.goto X3.here hx rfl (pc0 := 32) (pc' := 36) rfl (hb hby own_d_prog_21_method_14_code_32) (by decide) (by decide) k_) ?_
          show OGo p.tables e below _ (T3.setTop (mkF m 36 #[.val (.int p1)] [(.int (1 : Int32))]))
          refine OGo.fin X3 (v := some (.int (1 : Int32))) (fun h => by rw [Bd.returns] at h; cases h) hlk (fun fs hr => X3.ireturnOut hx Bd.returns rfl (by simp) (hb hby own_d_prog_21_method_14_code_36) hr) ?_ (by decide) (by decide)
          show own_Q_rm1 Z p1 h0 n0 _ T3.heap _
          rw [ez3]
          exact ⟨by simp [own_f14, hc3, hc9, hc15, hc28], N3, rfl⟩
      · refine OGo.st (fun _ k_ => XS.icmpNo X0.here hx rfl (hb hby own_d_prog_21_method_14_code_15) rfl (XT.ii_lt_f hc15) k_) ?_
        show OGo p.tables e below _ (s₁.setTop (mkF m 18 #[.val (.int p1)] []))
        refine OGo.st (fun _ k_ => XS.iloadN X0.here hx rfl (hb hby own_d_prog_21_method_14_code_18) rfl k_) ?_
        show OGo p.tables e below _ (s₁.setTop (mkF m 19 #[.val (.int p1)] [(.int p1)]))
        refine OGo.st (fun _ k_ => XS.bipush X0.here hx rfl (hb hby own_d_prog_21_method_14_code_19) k_) ?_
        show OGo p.tables e below _ (s₁.setTop (mkF m 21 #[.val (.int p1)] [(.int (90 : Int32)), (.int p1)]))
        by_cases hc21 : (90 : Int32) < p1
        · refine OGo.st (fun _ k_ => XS.icmpNo X0.here hx rfl (hb hby own_d_prog_21_method_14_code_21) rfl (XT.ii_le_f hc21) k_) ?_
          show OGo p.tables e below _ (s₁.setTop (mkF m 24 #[.val (.int p1)] []))
          refine OGo.st (fun _ k_ => XS.iloadN X0.here hx rfl (hb hby own_d_prog_21_method_14_code_24) rfl k_) ?_
          show OGo p.tables e below _ (s₁.setTop (mkF m 25 #[.val (.int p1)] [(.int p1)]))
          obtain ⟨_, _, ⟨T4, Lz4, kz4, nz4⟩, -, X4, ⟨Lc4, hQ4, lz4, yz4, zz4⟩, st4⟩ := Jvm.LawKit.callS X0 hx (y := (⟨"com/example/formwright/formwright/InputKind", "isAsciiDigit", "(C)Z"⟩ : MethodName)) hown (mvT hZ (hw _ (List.mem_of_getElem? (i := 4) rfl))) (mvT hZ (hw _ (List.mem_of_getElem? (i := 5) rfl))) (mvT hZ (hw _ (List.mem_of_getElem? (i := 2) rfl))) (mvT hZ (hw _ (List.mem_of_getElem? (i := 6) rfl))) (by decide) (backOf (W := 0) (rm2 l Z a0 hw [] p1 h0 n0 (Nat.le_trans Z0 (Keep.refl h0 []).1) ) hZ (hw _ (List.mem_of_getElem? (i := 6) rfl)) (hw _ (List.mem_of_getElem? (i := 2) rfl)) (by decide) (by decide)) (g := (mkF m 25 #[.val (.int p1)] [(.int p1)])) rfl (by rw [hml]; rfl) (argsL := [(.int p1)]) (rest := []) (lenOf own_pd0 rfl) rfl (by show 2 * 0 + _ ≤ _; exact Nat.le_of_eq rfl) (hb hby own_d_prog_21_method_14_code_25) (fun _ _ => ⟨rfl, e0, (by decide : 0 + 0 ≤ _), (by decide : 0 + 0 ≤ _)⟩)
          dsimp only [Pt.U, Pt.locs, Pt.cells, Pt.slots] at X4 lz4 yz4 zz4 st4 hQ4
          subst lz4 yz4 zz4
          obtain ⟨rfl, Nq4, ez4⟩ := hQ4
          have N4 := Fr.app N0 Nq4
          refine OGo.st st4 ?_
          show OGo p.tables e below _ (T4.setTop (mkF m 28 #[.val (.int p1)] [(.int (own_f15 p1))]))
          by_cases hc28 : (own_f15 p1) = 0
          · refine OGo.st (fun _ k_ => XS.ifYes X4.here hx rfl (pc0 := 28) (pc' := 35) rfl (hb hby own_d_prog_21_method_14_code_28) rfl (XT.i0_eq_t hc28) (by decide) (by decide) k_) ?_
            show OGo p.tables e below _ (T4.setTop (mkF m 35 #[.val (.int p1)] []))
            refine OGo.st (fun _ k_ => XS.iconst X4.here hx rfl (hb hby own_d_prog_21_method_14_code_35) k_) ?_
            show OGo p.tables e below _ (T4.setTop (mkF m 36 #[.val (.int p1)] [(.int (0 : Int32))]))
            refine OGo.fin X4 (v := some (.int (0 : Int32))) (fun h => by rw [Bd.returns] at h; cases h) hlk (fun fs hr => X4.ireturnOut hx Bd.returns rfl (by simp) (hb hby own_d_prog_21_method_14_code_36) hr) ?_ (by decide) (by decide)
            show own_Q_rm1 Z p1 h0 n0 _ T4.heap _
            rw [ez4]
            exact ⟨by simp [own_f14, hc3, hc9, hc15, hc21, hc28], N4, rfl⟩
          · refine OGo.st (fun _ k_ => XS.ifNo X4.here hx rfl (hb hby own_d_prog_21_method_14_code_28) rfl (XT.i0_eq_f hc28) k_) ?_
            show OGo p.tables e below _ (T4.setTop (mkF m 31 #[.val (.int p1)] []))
            refine OGo.st (fun _ k_ => XS.iconst X4.here hx rfl (hb hby own_d_prog_21_method_14_code_31) k_) ?_
            show OGo p.tables e below _ (T4.setTop (mkF m 32 #[.val (.int p1)] [(.int (1 : Int32))]))
            refine OGo.st (fun _ k_ => XS.goto X4.here hx rfl (pc0 := 32) (pc' := 36) rfl (hb hby own_d_prog_21_method_14_code_32) (by decide) (by decide) k_) ?_
            show OGo p.tables e below _ (T4.setTop (mkF m 36 #[.val (.int p1)] [(.int (1 : Int32))]))
            refine OGo.fin X4 (v := some (.int (1 : Int32))) (fun h => by rw [Bd.returns] at h; cases h) hlk (fun fs hr => X4.ireturnOut hx Bd.returns rfl (by simp) (hb hby own_d_prog_21_method_14_code_36) hr) ?_ (by decide) (by decide)
            show own_Q_rm1 Z p1 h0 n0 _ T4.heap _
            rw [ez4]
            exact ⟨by simp [own_f14, hc3, hc9, hc15, hc21, hc28], N4, rfl⟩
        · refine OGo.st (fun _ k_ => XS.icmpYes X0.here hx rfl (pc0 := 21) (pc' := 31) rfl (hb hby own_d_prog_21_method_14_code_21) rfl (XT.ii_le_t hc21) (by decide) (by decide) k_) ?_
          show OGo p.tables e below _ (s₁.setTop (mkF m 31 #[.val (.int p1)] []))
          refine OGo.st (fun _ k_ => XS.iconst X0.here hx rfl (hb hby own_d_prog_21_method_14_code_31) k_) ?_
          show OGo p.tables e below _ (s₁.setTop (mkF m 32 #[.val (.int p1)] [(.int (1 : Int32))]))
          refine OGo.st (fun _ k_ => XS.goto X0.here hx rfl (pc0 := 32) (pc' := 36) rfl (hb hby own_d_prog_21_method_14_code_32) (by decide) (by decide) k_) ?_
          show OGo p.tables e below _ (s₁.setTop (mkF m 36 #[.val (.int p1)] [(.int (1 : Int32))]))
          refine OGo.fin X0 (v := some (.int (1 : Int32))) (fun h => by rw [Bd.returns] at h; cases h) hlk (fun fs hr => X0.ireturnOut hx Bd.returns rfl (by simp) (hb hby own_d_prog_21_method_14_code_36) hr) ?_ (by decide) (by decide)
          show own_Q_rm1 Z p1 h0 n0 _ s₁.heap _
          rw [e0]
          exact ⟨by simp [own_f14, hc3, hc9, hc15, hc21], N0, rfl⟩
    · refine OGo.st (fun _ k_ => XS.icmpYes X0.here hx rfl (pc0 := 9) (pc' := 31) rfl (hb hby own_d_prog_21_method_14_code_9) rfl (XT.ii_le_t hc9) (by decide) (by decide) k_) ?_
      show OGo p.tables e below _ (s₁.setTop (mkF m 31 #[.val (.int p1)] []))
      refine OGo.st (fun _ k_ => XS.iconst X0.here hx rfl (hb hby own_d_prog_21_method_14_code_31) k_) ?_
      show OGo p.tables e below _ (s₁.setTop (mkF m 32 #[.val (.int p1)] [(.int (1 : Int32))]))
      refine OGo.st (fun _ k_ => XS.goto X0.here hx rfl (pc0 := 32) (pc' := 36) rfl (hb hby own_d_prog_21_method_14_code_32) (by decide) (by decide) k_) ?_
      show OGo p.tables e below _ (s₁.setTop (mkF m 36 #[.val (.int p1)] [(.int (1 : Int32))]))
      refine OGo.fin X0 (v := some (.int (1 : Int32))) (fun h => by rw [Bd.returns] at h; cases h) hlk (fun fs hr => X0.ireturnOut hx Bd.returns rfl (by simp) (hb hby own_d_prog_21_method_14_code_36) hr) ?_ (by decide) (by decide)
      show own_Q_rm1 Z p1 h0 n0 _ s₁.heap _
      rw [e0]
      exact ⟨by simp [own_f14, hc3, hc9], N0, rfl⟩
theorem own_d_method_3_code_0 : decode method_3_code 0 = .ok (.iload_n 0, 1) := by decide +kernel
theorem own_d_method_3_code_1 : decode method_3_code 1 = .ok (.bipush 32, 2) := by decide +kernel
theorem own_d_method_3_code_3 : decode method_3_code 3 = .ok (.ior, 1) := by decide +kernel
theorem own_d_method_3_code_4 : decode method_3_code 4 = .ok (.istore_n 1, 1) := by decide +kernel
theorem own_d_method_3_code_5 : decode method_3_code 5 = .ok (.iload_n 1, 1) := by decide +kernel
theorem own_d_method_3_code_6 : decode method_3_code 6 = .ok (.bipush 97, 2) := by decide +kernel
theorem own_d_method_3_code_8 : decode method_3_code 8 = .ok (.if_icmp .lt 13, 3) := by decide +kernel
theorem own_d_method_3_code_21 : decode method_3_code 21 = .ok (.iconst 0, 1) := by decide +kernel
theorem own_d_method_3_code_11 : decode method_3_code 11 = .ok (.iload_n 1, 1) := by decide +kernel
theorem own_d_method_3_code_12 : decode method_3_code 12 = .ok (.bipush 122, 2) := by decide +kernel
theorem own_d_method_3_code_14 : decode method_3_code 14 = .ok (.if_icmp .gt 7, 3) := by decide +kernel
theorem own_d_method_3_code_17 : decode method_3_code 17 = .ok (.iconst 1, 1) := by decide +kernel
theorem own_d_method_3_code_18 : decode method_3_code 18 = .ok (.goto 4, 3) := by decide +kernel
theorem own_d_method_3_code_22 : decode method_3_code 22 = .ok (.istore_n 2, 1) := by decide +kernel
theorem own_d_method_3_code_23 : decode method_3_code 23 = .ok (.iload_n 0, 1) := by decide +kernel
theorem own_d_method_3_code_24 : decode method_3_code 24 = .ok (.bipush 48, 2) := by decide +kernel
theorem own_d_method_3_code_26 : decode method_3_code 26 = .ok (.ixor, 1) := by decide +kernel
theorem own_d_method_3_code_27 : decode method_3_code 27 = .ok (.istore_n 3, 1) := by decide +kernel
theorem own_d_method_3_code_28 : decode method_3_code 28 = .ok (.iload_n 3, 1) := by decide +kernel
theorem own_d_method_3_code_29 : decode method_3_code 29 = .ok (.bipush 10, 2) := by decide +kernel
theorem own_d_method_3_code_31 : decode method_3_code 31 = .ok (.if_icmp .ge 7, 3) := by decide +kernel
theorem own_d_method_3_code_34 : decode method_3_code 34 = .ok (.iconst 1, 1) := by decide +kernel
theorem own_d_method_3_code_35 : decode method_3_code 35 = .ok (.goto 4, 3) := by decide +kernel
theorem own_d_method_3_code_38 : decode method_3_code 38 = .ok (.iconst 0, 1) := by decide +kernel
theorem own_d_method_3_code_39 : decode method_3_code 39 = .ok (.istore 4, 2) := by decide +kernel
theorem own_d_method_3_code_41 : decode method_3_code 41 = .ok (.iload_n 2, 1) := by decide +kernel
theorem own_d_method_3_code_42 : decode method_3_code 42 = .ok (.ifCond .ne 8, 3) := by decide +kernel
theorem own_d_method_3_code_45 : decode method_3_code 45 = .ok (.iload 4, 2) := by decide +kernel
theorem own_d_method_3_code_47 : decode method_3_code 47 = .ok (.ifCond .eq 7, 3) := by decide +kernel
theorem own_d_method_3_code_54 : decode method_3_code 54 = .ok (.iconst 0, 1) := by decide +kernel
theorem own_d_method_3_code_50 : decode method_3_code 50 = .ok (.iconst 1, 1) := by decide +kernel
theorem own_d_method_3_code_51 : decode method_3_code 51 = .ok (.goto 4, 3) := by decide +kernel
theorem own_d_method_3_code_55 : decode method_3_code 55 = .ok (.ireturn, 1) := by decide +kernel
theorem own_pn1 : plainName "com/example/formwright/formwright/InputKindIsAsciiLetterOrDigitPinLaw" = true := by first | (simp [plainName, overriddenIn]; done) | decide +kernel
theorem own_ef_rm3 (m : MethodId) (x0 : Int32) : entryFrame m #[(.int x0)] 5 = mkF m 0 #[.val (.int x0), .unset, .unset, .unset, .unset] [] := by first | (simp [entryFrame, mkF, argsToLocals, Value.category]; done) | rfl
def own_Q_rm3 (Z : State) (p1 : Int32) (h0 : Heap) (n0 : Nat) (v : Option Value) (h : Heap) (L : List Loc) : Prop := v = some (.int (own_f3 p1)) ∧ Fr n0 L ∧ h = h0
set_option maxRecDepth 65536 in
set_option maxHeartbeats 40000000 in
theorem rm3 (l : Launch) (Z : State) (a0 : Array Value) (hw : ∀ d ∈ tables_1, d.before a0 Z = true) (ws : List Jvm.Cond) (p1 : Int32) (h0 : Heap) (n0 : Nat) (Z0 : n0 ≤ h0.size)  :
    OMet l Z (⟨"com/example/formwright/formwright/InputKindIsAsciiLetterOrDigitPinLaw", "expected", "(C)Z"⟩ : MethodName) method_3_code 5 (some .boolean) ws ({ frames := 0, cells := 0, slots := 0, locals := 0 } : Room) #[(.int p1)] h0 (own_Q_rm3 Z p1 h0 n0) := by
  refine MetFree.of_bodySF (plainFor_of_name own_pn1) hisR ?_
  intro p e s m args below meth c s₁ Bd hml0 hP hK
  obtain ⟨rfl, hZ, hh⟩ := hP
  have hx := Bd.exec
  have hby := Bd.bytes
  have hml : c.maxLocals = 5 := hml0
  have hown : s.vm.findClass "com/example/formwright/formwright/InputKindIsAsciiLetterOrDigitPinLaw" = some m.cls := findClass_of_methodNamed Bd.named
  have hnm := (name_of_methodNamed Bd.named Bd.method).1
  have hlk : meth.locks = false := Bd.notSynchronized
  have X0 : Stand p l e ({ frames := 0, cells := 0, slots := 0, locals := 0 } : Room) s m #[(.int p1)] below meth c s₁ [] 0 0 := Stand.of_body Bd
  have e0 : s₁.heap = h0 := by rw [← hh, Bd.state]; rfl
  have N0 := Fr.nil n0
  refine OGo.enter (P := OPost s (own_Q_rm3 Z p1 h0 n0) 0 0) (own_ef_rm3 m p1) ?_
  show OGo p.tables e below _ (s₁.setTop (mkF m 0 #[.val (.int p1), .unset, .unset, .unset, .unset] []))
  refine OGo.st (fun _ k_ => XS.iloadN X0.here hx rfl (hb hby own_d_method_3_code_0) rfl k_) ?_
  show OGo p.tables e below _ (s₁.setTop (mkF m 1 #[.val (.int p1), .unset, .unset, .unset, .unset] [(.int p1)]))
  refine OGo.st (fun _ k_ => XS.bipush X0.here hx rfl (hb hby own_d_method_3_code_1) k_) ?_
  show OGo p.tables e below _ (s₁.setTop (mkF m 3 #[.val (.int p1), .unset, .unset, .unset, .unset] [(.int (32 : Int32)), (.int p1)]))
  refine OGo.st (fun _ k_ => XS.ior X0.here hx rfl (hb hby own_d_method_3_code_3) rfl k_) ?_
  show OGo p.tables e below _ (s₁.setTop (mkF m 4 #[.val (.int p1), .unset, .unset, .unset, .unset] [(.int (p1 ||| (32 : Int32)))]))
  refine OGo.st (fun _ k_ => XS.istoreN X0.here hx rfl (hb hby own_d_method_3_code_4) rfl (l' := #[.val (.int p1), .val (.int (p1 ||| (32 : Int32))), .unset, .unset, .unset]) rfl k_) ?_
  obtain ⟨va, hvz1, st1⟩ : ∃ va : Int32, va = (if (p1 ||| (32 : Int32)) < (97 : Int32) then (0 : Int32) else (if (122 : Int32) < (p1 ||| (32 : Int32)) then (0 : Int32) else (1 : Int32))) ∧ ∀ t, Steps p.tables e below (s₁.setTop (mkF m 22 #[.val (.int p1), .val (.int (p1 ||| (32 : Int32))), .unset, .unset, .unset] [(.int va)])) t → Steps p.tables e below (s₁.setTop (mkF m 5 #[.val (.int p1), .val (.int (p1 ||| (32 : Int32))), .unset, .unset, .unset] [])) t := by
    refine ⟨_, rfl, fun t k => ?_⟩
    show Steps p.tables e below (s₁.setTop (mkF m 5 #[.val (.int p1), .val (.int (p1 ||| (32 : Int32))), .unset, .unset, .unset] [])) _
    refine XS.iloadN X0.here hx rfl (hb hby own_d_method_3_code_5) rfl ?_
    show Steps p.tables e below (s₁.setTop (mkF m 6 #[.val (.int p1), .val (.int (p1 ||| (32 : Int32))), .unset, .unset, .unset] [(.int (p1 ||| (32 : Int32)))])) _
    refine XS.bipush X0.here hx rfl (hb hby own_d_method_3_code_6) ?_
    show Steps p.tables e below (s₁.setTop (mkF m 8 #[.val (.int p1), .val (.int (p1 ||| (32 : Int32))), .unset, .unset, .unset] [(.int (97 : Int32)), (.int (p1 ||| (32 : Int32)))])) _
    by_cases hs8 : (p1 ||| (32 : Int32)) < (97 : Int32)
    · rw [if_pos hs8] at k
      refine XS.icmpYes X0.here hx rfl (pc0 := 8) (pc' := 21) rfl (hb hby own_d_method_3_code_8) rfl (XT.ii_lt_t hs8) (by decide) (by decide) ?_
      show Steps p.tables e below (s₁.setTop (mkF m 21 #[.val (.int p1), .val (.int (p1 ||| (32 : Int32))), .unset, .unset, .unset] [])) _
      refine XS.iconst X0.here hx rfl (hb hby own_d_method_3_code_21) ?_
      exact k
    · rw [if_neg hs8] at k
      refine XS.icmpNo X0.here hx rfl (hb hby own_d_method_3_code_8) rfl (XT.ii_lt_f hs8) ?_
      show Steps p.tables e below (s₁.setTop (mkF m 11 #[.val (.int p1), .val (.int (p1 ||| (32 : Int32))), .unset, .unset, .unset] [])) _
      refine XS.iloadN X0.here hx rfl (hb hby own_d_method_3_code_11) rfl ?_
      show Steps p.tables e below (s₁.setTop (mkF m 12 #[.val (.int p1), .val (.int (p1 ||| (32 : Int32))), .unset, .unset, .unset] [(.int (p1 ||| (32 : Int32)))])) _
      refine XS.bipush X0.here hx rfl (hb hby own_d_method_3_code_12) ?_
      show Steps p.tables e below (s₁.setTop (mkF m 14 #[.val (.int p1), .val (.int (p1 ||| (32 : Int32))), .unset, .unset, .unset] [(.int (122 : Int32)), (.int (p1 ||| (32 : Int32)))])) _
      by_cases hs14 : (122 : Int32) < (p1 ||| (32 : Int32))
      · rw [if_pos hs14] at k
        refine XS.icmpYes X0.here hx rfl (pc0 := 14) (pc' := 21) rfl (hb hby own_d_method_3_code_14) rfl (XT.ii_gt_t hs14) (by decide) (by decide) ?_
        show Steps p.tables e below (s₁.setTop (mkF m 21 #[.val (.int p1), .val (.int (p1 ||| (32 : Int32))), .unset, .unset, .unset] [])) _
        refine XS.iconst X0.here hx rfl (hb hby own_d_method_3_code_21) ?_
        exact k
      · rw [if_neg hs14] at k
        refine XS.icmpNo X0.here hx rfl (hb hby own_d_method_3_code_14) rfl (XT.ii_gt_f hs14) ?_
        show Steps p.tables e below (s₁.setTop (mkF m 17 #[.val (.int p1), .val (.int (p1 ||| (32 : Int32))), .unset, .unset, .unset] [])) _
        refine XS.iconst X0.here hx rfl (hb hby own_d_method_3_code_17) ?_
        show Steps p.tables e below (s₁.setTop (mkF m 18 #[.val (.int p1), .val (.int (p1 ||| (32 : Int32))), .unset, .unset, .unset] [(.int (1 : Int32))])) _
        refine XS.goto X0.here hx rfl (pc0 := 18) (pc' := 22) rfl (hb hby own_d_method_3_code_18) (by decide) (by decide) ?_
        exact k
  refine OGo.st st1 ?_
  show OGo p.tables e below _ (s₁.setTop (mkF m 22 #[.val (.int p1), .val (.int (p1 ||| (32 : Int32))), .unset, .unset, .unset] [(.int va)]))
  refine OGo.st (fun _ k_ => XS.istoreN X0.here hx rfl (hb hby own_d_method_3_code_22) rfl (l' := #[.val (.int p1), .val (.int (p1 ||| (32 : Int32))), .val (.int va), .unset, .unset]) rfl k_) ?_
  show OGo p.tables e below _ (s₁.setTop (mkF m 23 #[.val (.int p1), .val (.int (p1 ||| (32 : Int32))), .val (.int va), .unset, .unset] []))
  refine OGo.st (fun _ k_ => XS.iloadN X0.here hx rfl (hb hby own_d_method_3_code_23) rfl k_) ?_
  show OGo p.tables e below _ (s₁.setTop (mkF m 24 #[.val (.int p1), .val (.int (p1 ||| (32 : Int32))), .val (.int va), .unset, .unset] [(.int p1)]))
  refine OGo.st (fun _ k_ => XS.bipush X0.here hx rfl (hb hby own_d_method_3_code_24) k_) ?_
  show OGo p.tables e below _ (s₁.setTop (mkF m 26 #[.val (.int p1), .val (.int (p1 ||| (32 : Int32))), .val (.int va), .unset, .unset] [(.int (48 : Int32)), (.int p1)]))
  refine OGo.st (fun _ k_ => XS.ixor X0.here hx rfl (hb hby own_d_method_3_code_26) rfl k_) ?_
  show OGo p.tables e below _ (s₁.setTop (mkF m 27 #[.val (.int p1), .val (.int (p1 ||| (32 : Int32))), .val (.int va), .unset, .unset] [(.int (p1 ^^^ (48 : Int32)))]))
  refine OGo.st (fun _ k_ => XS.istoreN X0.here hx rfl (hb hby own_d_method_3_code_27) rfl (l' := #[.val (.int p1), .val (.int (p1 ||| (32 : Int32))), .val (.int va), .val (.int (p1 ^^^ (48 : Int32))), .unset]) rfl k_) ?_
  obtain ⟨vb, hvz2, st2⟩ : ∃ vb : Int32, vb = (if (p1 ^^^ (48 : Int32)) < (10 : Int32) then (1 : Int32) else (0 : Int32)) ∧ ∀ t, Steps p.tables e below (s₁.setTop (mkF m 39 #[.val (.int p1), .val (.int (p1 ||| (32 : Int32))), .val (.int va), .val (.int (p1 ^^^ (48 : Int32))), .unset] [(.int vb)])) t → Steps p.tables e below (s₁.setTop (mkF m 28 #[.val (.int p1), .val (.int (p1 ||| (32 : Int32))), .val (.int va), .val (.int (p1 ^^^ (48 : Int32))), .unset] [])) t := by
    refine ⟨_, rfl, fun t k => ?_⟩
    show Steps p.tables e below (s₁.setTop (mkF m 28 #[.val (.int p1), .val (.int (p1 ||| (32 : Int32))), .val (.int va), .val (.int (p1 ^^^ (48 : Int32))), .unset] [])) _
    refine XS.iloadN X0.here hx rfl (hb hby own_d_method_3_code_28) rfl ?_
    show Steps p.tables e below (s₁.setTop (mkF m 29 #[.val (.int p1), .val (.int (p1 ||| (32 : Int32))), .val (.int va), .val (.int (p1 ^^^ (48 : Int32))), .unset] [(.int (p1 ^^^ (48 : Int32)))])) _
    refine XS.bipush X0.here hx rfl (hb hby own_d_method_3_code_29) ?_
    show Steps p.tables e below (s₁.setTop (mkF m 31 #[.val (.int p1), .val (.int (p1 ||| (32 : Int32))), .val (.int va), .val (.int (p1 ^^^ (48 : Int32))), .unset] [(.int (10 : Int32)), (.int (p1 ^^^ (48 : Int32)))])) _
    by_cases hs31 : (p1 ^^^ (48 : Int32)) < (10 : Int32)
    · rw [if_pos hs31] at k
      refine XS.icmpNo X0.here hx rfl (hb hby own_d_method_3_code_31) rfl (XT.ii_ge_f hs31) ?_
      show Steps p.tables e below (s₁.setTop (mkF m 34 #[.val (.int p1), .val (.int (p1 ||| (32 : Int32))), .val (.int va), .val (.int (p1 ^^^ (48 : Int32))), .unset] [])) _
      refine XS.iconst X0.here hx rfl (hb hby own_d_method_3_code_34) ?_
      show Steps p.tables e below (s₁.setTop (mkF m 35 #[.val (.int p1), .val (.int (p1 ||| (32 : Int32))), .val (.int va), .val (.int (p1 ^^^ (48 : Int32))), .unset] [(.int (1 : Int32))])) _
      refine XS.goto X0.here hx rfl (pc0 := 35) (pc' := 39) rfl (hb hby own_d_method_3_code_35) (by decide) (by decide) ?_
      exact k
    · rw [if_neg hs31] at k
      refine XS.icmpYes X0.here hx rfl (pc0 := 31) (pc' := 38) rfl (hb hby own_d_method_3_code_31) rfl (XT.ii_ge_t hs31) (by decide) (by decide) ?_
      show Steps p.tables e below (s₁.setTop (mkF m 38 #[.val (.int p1), .val (.int (p1 ||| (32 : Int32))), .val (.int va), .val (.int (p1 ^^^ (48 : Int32))), .unset] [])) _
      refine XS.iconst X0.here hx rfl (hb hby own_d_method_3_code_38) ?_
      exact k
  refine OGo.st st2 ?_
  show OGo p.tables e below _ (s₁.setTop (mkF m 39 #[.val (.int p1), .val (.int (p1 ||| (32 : Int32))), .val (.int va), .val (.int (p1 ^^^ (48 : Int32))), .unset] [(.int vb)]))
  refine OGo.st (fun _ k_ => XS.istore X0.here hx rfl (hb hby own_d_method_3_code_39) rfl (l' := #[.val (.int p1), .val (.int (p1 ||| (32 : Int32))), .val (.int va), .val (.int (p1 ^^^ (48 : Int32))), .val (.int vb)]) rfl k_) ?_
  obtain ⟨vc, hvz3, st3⟩ : ∃ vc : Int32, vc = (if va = 0 then (if vb = 0 then (0 : Int32) else (1 : Int32)) else (1 : Int32)) ∧ ∀ t, Steps p.tables e below (s₁.setTop (mkF m 55 #[.val (.int p1), .val (.int (p1 ||| (32 : Int32))), .val (.int va), .val (.int (p1 ^^^ (48 : Int32))), .val (.int vb)] [(.int vc)])) t → Steps p.tables e below (s₁.setTop (mkF m 41 #[.val (.int p1), .val (.int (p1 ||| (32 : Int32))), .val (.int va), .val (.int (p1 ^^^ (48 : Int32))), .val (.int vb)] [])) t := by
    refine ⟨_, rfl, fun t k => ?_⟩
    show Steps p.tables e below (s₁.setTop (mkF m 41 #[.val (.int p1), .val (.int (p1 ||| (32 : Int32))), .val (.int va), .val (.int (p1 ^^^ (48 : Int32))), .val (.int vb)] [])) _
    refine XS.iloadN X0.here hx rfl (hb hby own_d_method_3_code_41) rfl ?_
    show Steps p.tables e below (s₁.setTop (mkF m 42 #[.val (.int p1), .val (.int (p1 ||| (32 : Int32))), .val (.int va), .val (.int (p1 ^^^ (48 : Int32))), .val (.int vb)] [(.int va)])) _
    by_cases hs42 : va = 0
    · rw [if_pos hs42] at k
      refine XS.ifNo X0.here hx rfl (hb hby own_d_method_3_code_42) rfl (XT.i0_ne_f hs42) ?_
      show Steps p.tables e below (s₁.setTop (mkF m 45 #[.val (.int p1), .val (.int (p1 ||| (32 : Int32))), .val (.int va), .val (.int (p1 ^^^ (48 : Int32))), .val (.int vb)] [])) _
      refine XS.iload X0.here hx rfl (hb hby own_d_method_3_code_45) rfl ?_
      show Steps p.tables e below (s₁.setTop (mkF m 47 #[.val (.int p1), .val (.int (p1 ||| (32 : Int32))), .val (.int va), .val (.int (p1 ^^^ (48 : Int32))), .val (.int vb)] [(.int vb)])) _
      by_cases hs47 : vb = 0
      · rw [if_pos hs47] at k
        refine XS.ifYes X0.here hx rfl (pc0 := 47) (pc' := 54) rfl (hb hby own_d_method_3_code_47) rfl (XT.i0_eq_t hs47) (by decide) (by decide) ?_
        show Steps p.tables e below (s₁.setTop (mkF m 54 #[.val (.int p1), .val (.int (p1 ||| (32 : Int32))), .val (.int va), .val (.int (p1 ^^^ (48 : Int32))), .val (.int vb)] [])) _
        refine XS.iconst X0.here hx rfl (hb hby own_d_method_3_code_54) ?_
        exact k
      · rw [if_neg hs47] at k
        refine XS.ifNo X0.here hx rfl (hb hby own_d_method_3_code_47) rfl (XT.i0_eq_f hs47) ?_
        show Steps p.tables e below (s₁.setTop (mkF m 50 #[.val (.int p1), .val (.int (p1 ||| (32 : Int32))), .val (.int va), .val (.int (p1 ^^^ (48 : Int32))), .val (.int vb)] [])) _
        refine XS.iconst X0.here hx rfl (hb hby own_d_method_3_code_50) ?_
        show Steps p.tables e below (s₁.setTop (mkF m 51 #[.val (.int p1), .val (.int (p1 ||| (32 : Int32))), .val (.int va), .val (.int (p1 ^^^ (48 : Int32))), .val (.int vb)] [(.int (1 : Int32))])) _
        refine XS.goto X0.here hx rfl (pc0 := 51) (pc' := 55) rfl (hb hby own_d_method_3_code_51) (by decide) (by decide) ?_
        exact k
    · rw [if_neg hs42] at k
      refine XS.ifYes X0.here hx rfl (pc0 := 42) (pc' := 50) rfl (hb hby own_d_method_3_code_42) rfl (XT.i0_ne_t hs42) (by decide) (by decide) ?_
      show Steps p.tables e below (s₁.setTop (mkF m 50 #[.val (.int p1), .val (.int (p1 ||| (32 : Int32))), .val (.int va), .val (.int (p1 ^^^ (48 : Int32))), .val (.int vb)] [])) _
      refine XS.iconst X0.here hx rfl (hb hby own_d_method_3_code_50) ?_
      show Steps p.tables e below (s₁.setTop (mkF m 51 #[.val (.int p1), .val (.int (p1 ||| (32 : Int32))), .val (.int va), .val (.int (p1 ^^^ (48 : Int32))), .val (.int vb)] [(.int (1 : Int32))])) _
      refine XS.goto X0.here hx rfl (pc0 := 51) (pc' := 55) rfl (hb hby own_d_method_3_code_51) (by decide) (by decide) ?_
      exact k
  refine OGo.st st3 ?_
  show OGo p.tables e below _ (s₁.setTop (mkF m 55 #[.val (.int p1), .val (.int (p1 ||| (32 : Int32))), .val (.int va), .val (.int (p1 ^^^ (48 : Int32))), .val (.int vb)] [(.int vc)]))
  refine OGo.fin X0 (v := some (.int vc)) (fun h => by rw [Bd.returns] at h; cases h) hlk (fun fs hr => X0.ireturnOut hx Bd.returns (own_nb (by rw [hvz3]; (repeat' split) <;> first | exact Or.inl rfl | exact Or.inr rfl)) (by simp) (hb hby own_d_method_3_code_55) hr) ?_ (by decide) (by decide)
  show own_Q_rm3 Z p1 h0 n0 _ s₁.heap _
  rw [e0]
  exact ⟨by rw [hvz3, hvz1, hvz2]; rfl, N0, rfl⟩
theorem own_ef_rm0 (m : MethodId) (x0 : Int32) : entryFrame m #[(.int x0)] maxLocals = mkF m 0 #[.val (.int x0), .unset, .unset] [] := by first | (simp [entryFrame, mkF, argsToLocals, Value.category, maxLocals]; done) | rfl
def own_Q_rm0 (Z : State) (p1 : Int32) (h0 : Heap) (n0 : Nat) (v : Option Value) (h : Heap) (L : List Loc) : Prop := v = some (.int 1) ∧ Fr n0 L
set_option maxRecDepth 65536 in
set_option maxHeartbeats 40000000 in
theorem rm0 (l : Launch) (Z : State) (a0 : Array Value) (hw : ∀ d ∈ tables_1, d.before a0 Z = true) (ws : List Jvm.Cond) (p1 : Int32) (h0 : Heap) (n0 : Nat) (Z0 : n0 ≤ h0.size)  :
    OMet l Z x code maxLocals ret ws room_1 #[(.int p1)] h0 (own_Q_rm0 Z p1 h0 n0) := by
  refine MetFree.of_bodySF (plainFor_of_name own_pn1) hisR ?_
  intro p e s m args below meth c s₁ Bd hml0 hP hK
  obtain ⟨rfl, hZ, hh⟩ := hP
  have hx := Bd.exec
  have hby := Bd.bytes
  have hml : c.maxLocals = 3 := hml0
  have hown : s.vm.findClass "com/example/formwright/formwright/InputKindIsAsciiLetterOrDigitPinLaw" = some m.cls := findClass_of_methodNamed Bd.named
  have hnm := (name_of_methodNamed Bd.named Bd.method).1
  have hlk : meth.locks = false := Bd.notSynchronized
  have X0 : Stand p l e room_1 s m #[(.int p1)] below meth c s₁ [] 0 0 := Stand.of_body Bd
  have e0 : s₁.heap = h0 := by rw [← hh, Bd.state]; rfl
  have N0 := Fr.nil n0
  refine OGo.enter (P := OPost s (own_Q_rm0 Z p1 h0 n0) room_1.cells room_1.slots) (own_ef_rm0 m p1) ?_
  show OGo p.tables e below _ (s₁.setTop (mkF m 0 #[.val (.int p1), .unset, .unset] []))
  refine OGo.st (fun _ k_ => XS.iloadN X0.here hx rfl (hb hby at_0) rfl k_) ?_
  show OGo p.tables e below _ (s₁.setTop (mkF m 1 #[.val (.int p1), .unset, .unset] [(.int p1)]))
  refine OGo.st (fun _ k_ => XS.i2c X0.here hx rfl (hb hby at_1) rfl k_) ?_
  show OGo p.tables e below _ (s₁.setTop (mkF m 2 #[.val (.int p1), .unset, .unset] [(.int p1.toUInt32.toUInt16.toUInt32.toInt32)]))
  refine OGo.st (fun _ k_ => XS.istoreN X0.here hx rfl (hb hby at_2) rfl (l' := #[.val (.int p1), .val (.int p1.toUInt32.toUInt16.toUInt32.toInt32), .unset]) rfl k_) ?_
  show OGo p.tables e below _ (s₁.setTop (mkF m 3 #[.val (.int p1), .val (.int p1.toUInt32.toUInt16.toUInt32.toInt32), .unset] []))
  refine OGo.st (fun _ k_ => XS.iloadN X0.here hx rfl (hb hby at_3) rfl k_) ?_
  show OGo p.tables e below _ (s₁.setTop (mkF m 4 #[.val (.int p1), .val (.int p1.toUInt32.toUInt16.toUInt32.toInt32), .unset] [(.int p1.toUInt32.toUInt16.toUInt32.toInt32)]))
  obtain ⟨_, _, ⟨T1, Lz1, kz1, nz1⟩, -, X1, ⟨Lc1, hQ1, lz1, yz1, zz1⟩, st1⟩ := Jvm.LawKit.callS X0 hx (y := (⟨"com/example/formwright/formwright/InputKind", "isAsciiLetterOrDigit", "(C)Z"⟩ : MethodName)) hown (mvT hZ (hw _ (List.mem_of_getElem? (i := 0) rfl))) (mvT hZ (hw _ (List.mem_of_getElem? (i := 1) rfl))) (mvT hZ (hw _ (List.mem_of_getElem? (i := 2) rfl))) (mvT hZ (hw _ (List.mem_of_getElem? (i := 3) rfl))) (by decide) (backOf (W := 0) (rm1 l Z a0 hw [] p1.toUInt32.toUInt16.toUInt32.toInt32 h0 n0 (Nat.le_trans Z0 (Keep.refl h0 []).1) ) hZ (hw _ (List.mem_of_getElem? (i := 3) rfl)) (hw _ (List.mem_of_getElem? (i := 2) rfl)) (by decide) (by decide)) (g := (mkF m 4 #[.val (.int p1), .val (.int p1.toUInt32.toUInt16.toUInt32.toInt32), .unset] [(.int p1.toUInt32.toUInt16.toUInt32.toInt32)])) rfl (by rw [hml]; rfl) (argsL := [(.int p1.toUInt32.toUInt16.toUInt32.toInt32)]) (rest := []) (lenOf own_pd0 rfl) rfl (by show 2 * 0 + _ ≤ _; exact Nat.le_of_eq rfl) (hb hby at_4) (fun _ _ => ⟨rfl, e0, (by decide : 0 + 0 ≤ _), (by decide : 0 + 0 ≤ _)⟩)
  dsimp only [Pt.U, Pt.locs, Pt.cells, Pt.slots] at X1 lz1 yz1 zz1 st1 hQ1
  subst lz1 yz1 zz1
  obtain ⟨rfl, Nq1, ez1⟩ := hQ1
  have N1 := Fr.app N0 Nq1
  refine OGo.st st1 ?_
  show OGo p.tables e below _ (T1.setTop (mkF m 7 #[.val (.int p1), .val (.int p1.toUInt32.toUInt16.toUInt32.toInt32), .unset] [(.int (own_f14 p1.toUInt32.toUInt16.toUInt32.toInt32))]))
  refine OGo.st (fun _ k_ => XS.istoreN X1.here hx rfl (hb hby at_7) rfl (l' := #[.val (.int p1), .val (.int p1.toUInt32.toUInt16.toUInt32.toInt32), .val (.int (own_f14 p1.toUInt32.toUInt16.toUInt32.toInt32))]) rfl k_) ?_
  show OGo p.tables e below _ (T1.setTop (mkF m 8 #[.val (.int p1), .val (.int p1.toUInt32.toUInt16.toUInt32.toInt32), .val (.int (own_f14 p1.toUInt32.toUInt16.toUInt32.toInt32))] []))
  refine OGo.st (fun _ k_ => XS.iloadN X1.here hx rfl (hb hby at_8) rfl k_) ?_
  show OGo p.tables e below _ (T1.setTop (mkF m 9 #[.val (.int p1), .val (.int p1.toUInt32.toUInt16.toUInt32.toInt32), .val (.int (own_f14 p1.toUInt32.toUInt16.toUInt32.toInt32))] [(.int (own_f14 p1.toUInt32.toUInt16.toUInt32.toInt32))]))
  refine OGo.st (fun _ k_ => XS.iloadN X1.here hx rfl (hb hby at_9) rfl k_) ?_
  show OGo p.tables e below _ (T1.setTop (mkF m 10 #[.val (.int p1), .val (.int p1.toUInt32.toUInt16.toUInt32.toInt32), .val (.int (own_f14 p1.toUInt32.toUInt16.toUInt32.toInt32))] [(.int p1.toUInt32.toUInt16.toUInt32.toInt32), (.int (own_f14 p1.toUInt32.toUInt16.toUInt32.toInt32))]))
  obtain ⟨_, _, ⟨T2, Lz2, kz2, nz2⟩, -, X2, ⟨Lc2, hQ2, lz2, yz2, zz2⟩, st2⟩ := Jvm.LawKit.callS X1 hx (y := (⟨"com/example/formwright/formwright/InputKindIsAsciiLetterOrDigitPinLaw", "expected", "(C)Z"⟩ : MethodName)) hown (mvT hZ (hw _ (List.mem_of_getElem? (i := 7) rfl))) (mvT hZ (hw _ (List.mem_of_getElem? (i := 8) rfl))) (mvT hZ (hw _ (List.mem_of_getElem? (i := 9) rfl))) (mvT hZ (hw _ (List.mem_of_getElem? (i := 10) rfl))) (by decide) (backOf (W := 1) (rm3 l Z a0 hw [] p1.toUInt32.toUInt16.toUInt32.toInt32 h0 n0 (Nat.le_trans Z0 (Keep.refl h0 []).1) ) hZ (hw _ (List.mem_of_getElem? (i := 10) rfl)) (hw _ (List.mem_of_getElem? (i := 9) rfl)) (by decide) (by decide)) (g := (mkF m 10 #[.val (.int p1), .val (.int p1.toUInt32.toUInt16.toUInt32.toInt32), .val (.int (own_f14 p1.toUInt32.toUInt16.toUInt32.toInt32))] [(.int p1.toUInt32.toUInt16.toUInt32.toInt32), (.int (own_f14 p1.toUInt32.toUInt16.toUInt32.toInt32))])) rfl (by rw [hml]; rfl) (argsL := [(.int p1.toUInt32.toUInt16.toUInt32.toInt32)]) (rest := [(.int (own_f14 p1.toUInt32.toUInt16.toUInt32.toInt32))]) (lenOf own_pd0 rfl) rfl (by show 2 * 0 + _ ≤ _; exact Nat.le_of_eq rfl) (hb hby at_10) (fun _ _ => ⟨rfl, ez1, (by decide : 0 + 0 ≤ _), (by decide : 0 + 0 ≤ _)⟩)
  dsimp only [Pt.U, Pt.locs, Pt.cells, Pt.slots] at X2 lz2 yz2 zz2 st2 hQ2
  subst lz2 yz2 zz2
  obtain ⟨rfl, Nq2, ez2⟩ := hQ2
  have N2 := Fr.app N1 Nq2
  refine OGo.st st2 ?_
  show OGo p.tables e below _ (T2.setTop (mkF m 13 #[.val (.int p1), .val (.int p1.toUInt32.toUInt16.toUInt32.toInt32), .val (.int (own_f14 p1.toUInt32.toUInt16.toUInt32.toInt32))] [(.int (own_f3 p1.toUInt32.toUInt16.toUInt32.toInt32)), (.int (own_f14 p1.toUInt32.toUInt16.toUInt32.toInt32))]))
  refine OGo.st (fun _ k_ => XS.icmpNo X2.here hx rfl (hb hby at_13) rfl (XT.ii_ne_f (own_plain p1)) k_) ?_
  show OGo p.tables e below _ (T2.setTop (mkF m 16 #[.val (.int p1), .val (.int p1.toUInt32.toUInt16.toUInt32.toInt32), .val (.int (own_f14 p1.toUInt32.toUInt16.toUInt32.toInt32))] []))
  refine OGo.st (fun _ k_ => XS.iconst X2.here hx rfl (hb hby at_16) k_) ?_
  show OGo p.tables e below _ (T2.setTop (mkF m 17 #[.val (.int p1), .val (.int p1.toUInt32.toUInt16.toUInt32.toInt32), .val (.int (own_f14 p1.toUInt32.toUInt16.toUInt32.toInt32))] [(.int (1 : Int32))]))
  refine OGo.st (fun _ k_ => XS.goto X2.here hx rfl (pc0 := 17) (pc' := 21) rfl (hb hby at_17) (by decide) (by decide) k_) ?_
  show OGo p.tables e below _ (T2.setTop (mkF m 21 #[.val (.int p1), .val (.int p1.toUInt32.toUInt16.toUInt32.toInt32), .val (.int (own_f14 p1.toUInt32.toUInt16.toUInt32.toInt32))] [(.int (1 : Int32))]))
  refine OGo.fin X2 (v := some (.int (1 : Int32))) (fun h => by rw [Bd.returns] at h; cases h) hlk (fun fs hr => X2.ireturnOut hx Bd.returns rfl (by simp) (hb hby at_21) hr) ?_ (by decide) (by decide)
  show own_Q_rm0 Z p1 h0 n0 _ T2.heap _
  rw [ez2]
  exact ⟨rfl, N2⟩
set_option maxRecDepth 65536 in
set_option maxHeartbeats 40000000 in
theorem comes_1 {Post : Tables → Env → Array Value → State → Outcome → State → Prop} (hpost : ∀ tb e args s v u, (limb_1_1.after args s (.returned v) u = true ∧ limb_1_2.after args s (.returned v) u = true ∧ True) → FrameEnd s (.returned v) u (Jvm.fieldLocs frame_1_writes args s ++ Jvm.arrayLocs frame_1_arrays args s ++ Jvm.staticLocs frame_1_statics s) 0 0 → Post tb e args s (.returned v) u) :
    ArmFor flags0 classFile x code maxLocals ret World_1 tables_1 room_1 Calls_1 rest_1 Pre_1 Post := by
  intro l hfl _ _ p e ha hc hk s m args below hf hA hF happ hP
  obtain ⟨hcalls, hrest, hpre⟩ := hP
  obtain ⟨-, -, -, hnamed, -, -, -, hat⟩ := (Spec.applies_iff hf).mp happ
  obtain ⟨hg, hn⟩ := and_e (Cond.before_iff.mp (show (Jvm.Cond.and given_1 narrow_1).before args s = true from hpre))
  obtain ⟨g0, r0⟩ := and_e hg
  obtain ⟨w0, rfl⟩ : ∃ w0 : Value, args = #[w0] := by
    have hs : args.size = 1 := by simpa [Cond.value, given_1] using g0
    obtain ⟨L⟩ := args
    match L, hs with
    | [w0], _ => exact ⟨w0, rfl⟩
  have hw := fun d (hd : d ∈ tables_1) => atoms_spec (ws := Jvm.Cond.code x code maxLocals ret :: tables_1) hat d (List.mem_cons_of_mem _ hd)
  have hfit : Fit s := fun {y c} hc i hi => by
    obtain ⟨ha, rfl⟩ := Array.getElem?_eq_some_iff.mp hc
    have q := List.all_eq_true.mp ((Array.all_eq_true_iff_forall_mem.mp hF) _ (Array.getElem_mem ha)) i (List.mem_range.mpr hi)
    simpa [Array.getElem?_eq_getElem hi] using q
  obtain ⟨i0, ei0⟩ := is_v r0
  obtain rfl : w0 = (.int i0) := Option.some.inj ei0
  obtain ⟨n, o, h1, h2, h3, _, L, rfl, ⟨rfl, N⟩, hq⟩ := rm0 l s _ hw tables_1 i0  s.heap s.heap.size (Nat.le_refl _)  p e ha hc hk s m _ below hf ((Spec.applies_iff_loose hf).mp happ).1 ⟨rfl, State.Warmed39.refl s, rfl⟩ trivial
  refine ⟨n, _, h1, h2, h3, hpost _ _ _ _ _ _ ⟨Cond.after_iff.mpr rfl, Cond.after_iff.mpr (eq_i res_at (Term.int_eval (1)) rfl), trivial⟩ ⟨hq.1, hq.2.1, (hq.2.2.sift fun y hy => Or.inr (N y hy)).mono (by decide) (by decide)⟩⟩
theorem main_1_1 : Claimed_1_1 := comes_1 fun _ _ _ _ _ _ h hF => ⟨h.1, hF⟩
theorem main_1_2 : Claimed_1_2 := comes_1 fun _ _ _ _ _ _ h hF => ⟨h.2.1, hF⟩
end Jvm.Pilot.@@N@@
namespace Jvm.Pilot.@@N@@
open Jvm Jvm.ClassFile Sem Op Lib Jvm.Free Jvm.Stand Jvm.Pilot.@@N@@.Jvm.D
/-! MADE BY PROGRAM (witnessworld.py) out of the Statement's table words and the real class files: 10 classes; the members and pool entries that the words name. The judged class is class 1, her method 1. -/
namespace start1
open Jvm.ClassFile
def u (s : String) : CpInfo := .utf8 (stringToUtf16 s)
/-- a pool by its gaps: so many unusable entries, then the entry; so many at the end -/
def gap : Nat → List CpInfo → List CpInfo
  | 0, r => r
  | n + 1, r => .unusable :: gap n r
def poolList (es : List (Nat × CpInfo)) (last : Nat) : List CpInfo := es.foldr (fun e r => gap e.1 (e.2 :: r)) (gap last [])
def pool (es : List (Nat × CpInfo)) (last : Nat) : Array CpInfo := ⟨poolList es last⟩
def fileOf (pool : Array CpInfo) (this : Nat) (attrs : Array Attribute := #[]) (ms : Array MethodInfo := #[]) (fl : Nat := 33) (sup : Nat := 0) (ifs : Array Nat := #[]) (fds : Array FieldInfo := #[]) : ClassFile where
  minorVersion := 0
  majorVersion := 65
  constantPool := pool
  accessFlags := fl
  thisClass := this
  superClass := sup
  interfaces := ifs
  fields := fds
  methods := ms
  attributes := attrs
def plain (name : String) (sup : Option ClassId) : Class where
  name := name
  kind := .ordinary
  loader := none
  accessFlags := 33
  super := sup
  interfaces := #[]
  cf := none
  fields := #[]
  methods := #[]
  instanceTypes := #[]
  staticTypes := #[]
  resolved := #[]
  callSites := []
  init := .initialized
  statics := none
  mirror := none

def pool0 : Array CpInfo := pool [(5, u "<init>"), (0, u "()V"), (1, .class_ 10), (1, u "java/lang/Object")] 113

def k0m0 : Method := { name := "<init>", desc := "()V", sig := { parameters := [], returnType := none }, accessFlags := 1, code := none }
/-- java/lang/Object -/
def k0 : Class := { plain "java/lang/Object" none with
  accessFlags := 33
  interfaces := #[]
  cf := some (fileOf pool0 8 #[] #[{ accessFlags := 1, nameIndex := 5, descriptorIndex := 6, attributes := #[] }] 33 0 #[] #[])
  fields := #[]
  methods := #[k0m0]
  instanceTypes := #[]
  staticTypes := #[]
  resolved := Array.replicate 124 none
  statics := none }

def pool1 : Array CpInfo := pool [(2, .class_ 4), (1, u "java/lang/Object"), (0, u "<init>"), (0, u "()V"), (0, .methodref 8 9), (0, .class_ 10), (0, .nameAndType 11 12), (0, u "com/example/formwright/formwright/InputKind"), (0, u "isAsciiLetterOrDigit"), (0, u "(C)Z"), (0, .methodref 14 15), (0, .class_ 16), (0, .nameAndType 17 12), (0, u "com/example/formwright/formwright/InputKindIsAsciiLetterOrDigitPinLaw"), (0, u "expected"), (2, u "law"), (0, u "(I)Z")] 3

def k1m0 : Method := { name := "<init>", desc := "()V", sig := { parameters := [], returnType := none }, accessFlags := 2, code := none }
def k1c1 : Code := { maxStack := 2, maxLocals := 3, code := code, exceptionTable := #[], attributes := #[] }
def k1m1 : Method := { name := "law", desc := "(I)Z", sig := { parameters := [.int], returnType := some .boolean }, accessFlags := 9, code := some k1c1 }
def k1c2 : Code := { maxStack := 2, maxLocals := 5, code := method_3_code, exceptionTable := #[], attributes := #[] }
def k1m2 : Method := { name := "expected", desc := "(C)Z", sig := { parameters := [.char], returnType := some .boolean }, accessFlags := 10, code := some k1c2 }
/-- com/example/formwright/formwright/InputKindIsAsciiLetterOrDigitPinLaw -/
def k1 : Class := { plain "com/example/formwright/formwright/InputKindIsAsciiLetterOrDigitPinLaw" (some 0) with
  accessFlags := 49
  interfaces := #[]
  cf := some (fileOf pool1 14 #[] #[{ accessFlags := 2, nameIndex := 5, descriptorIndex := 6, attributes := #[] }, { accessFlags := 9, nameIndex := 20, descriptorIndex := 21, attributes := #[] }, { accessFlags := 10, nameIndex := 17, descriptorIndex := 12, attributes := #[] }] 49 2 #[] #[])
  fields := #[]
  methods := #[k1m0, k1m1, k1m2]
  instanceTypes := #[]
  staticTypes := #[]
  resolved := Array.replicate 25 none
  statics := none }

def pool2 : Array CpInfo := pool [(2, .class_ 4), (1, u "java/lang/Object"), (3, .class_ 10), (1, u "com/example/formwright/formwright/Kind"), (0, u "valueType"), (0, u "Ljava/lang/Class;"), (20, u "NOT_OFFERED"), (0, u "Lcom/example/formwright/formwright/Failure;")] 47

/-- com/example/formwright/formwright/Kind -/
def k2 : Class := { plain "com/example/formwright/formwright/Kind" (some 0) with
  accessFlags := 1056
  interfaces := #[]
  cf := some (fileOf pool2 8 #[] #[] 1056 2 #[] #[{ accessFlags := 24, nameIndex := 33, descriptorIndex := 34, attributes := #[] }, { accessFlags := 18, nameIndex := 11, descriptorIndex := 12, attributes := #[] }])
  fields := #[{ name := "NOT_OFFERED", type := (.object "com/example/formwright/formwright/Failure"), accessFlags := 24, slot := 0, constantValue := 0 }, { name := "valueType", type := (.object "java/lang/Class"), accessFlags := 18, slot := 0, constantValue := 0 }]
  methods := #[]
  instanceTypes := #[(.object "java/lang/Class")]
  staticTypes := #[(.object "com/example/formwright/formwright/Failure")]
  resolved := Array.replicate 82 none
  statics := none }

def pool3 : Array CpInfo := pool [(2, .class_ 4), (1, u "com/example/formwright/formwright/Kind"), (3, .class_ 10), (1, u "com/example/formwright/formwright/InputKind"), (0, u "type"), (0, u "Ljava/lang/String;"), (2, u "step"), (2, u "refusal"), (0, u "Ljava/util/function/Function;"), (2, u "reader"), (2, u "writer"), (2, u "wholeNumbers"), (0, u "Lcom/example/formwright/formwright/Field$WholeNumbers;"), (29, u "TEXT_RULE_TYPES"), (0, u "Ljava/util/Set;"), (63, u "isAsciiLetterOrDigit"), (0, u "(C)Z"), (13, .methodref 8 140), (0, .nameAndType 141 125), (0, u "isAsciiDigit"), (57, u "INT_NUMBERS"), (23, u "NOT_A_DECIMAL"), (0, u "Lcom/example/formwright/formwright/Failure;"), (2, u "TOO_MANY_DIGITS"), (35, u "POWERS_OF_TEN"), (0, u "Ljava/util/List;"), (69, u "TEXT"), (0, u "Lcom/example/formwright/formwright/InputKind;"), (5, u "EMAIL"), (14, u "DATE"), (7, u "WHOLE_NUMBER"), (11, u "DECIMAL"), (9, u "TEXT_TYPE"), (1, u "NUMBER_TYPE"), (6, u "MAX_DECIMAL_DIGITS"), (0, u "I"), (1, u "DIGITS_IN_A_LONG"), (2, u "EMAIL_LOCAL_SYMBOLS"), (0, u "MAX_HOST_LABEL_LENGTH")] 128

def k3c0 : Code := { maxStack := 2, maxLocals := 1, code := prog_21_method_14_code, exceptionTable := #[], attributes := #[] }
def k3m0 : Method := { name := "isAsciiLetterOrDigit", desc := "(C)Z", sig := { parameters := [.char], returnType := some .boolean }, accessFlags := 8, code := some k3c0 }
def k3c1 : Code := { maxStack := 2, maxLocals := 1, code := prog_21_method_15_code, exceptionTable := #[], attributes := #[] }
def k3m1 : Method := { name := "isAsciiDigit", desc := "(C)Z", sig := { parameters := [.char], returnType := some .boolean }, accessFlags := 10, code := some k3c1 }
/-- com/example/formwright/formwright/InputKind -/
def k3 : Class := { plain "com/example/formwright/formwright/InputKind" (some 2) with
  accessFlags := 48
  interfaces := #[]
  cf := some (fileOf pool3 8 #[] #[{ accessFlags := 8, nameIndex := 124, descriptorIndex := 125, attributes := #[] }, { accessFlags := 10, nameIndex := 141, descriptorIndex := 125, attributes := #[] }] 48 2 #[] #[{ accessFlags := 26, nameIndex := 386, descriptorIndex := 12, attributes := #[] }, { accessFlags := 26, nameIndex := 388, descriptorIndex := 12, attributes := #[] }, { accessFlags := 26, nameIndex := 59, descriptorIndex := 60, attributes := #[] }, { accessFlags := 26, nameIndex := 199, descriptorIndex := 29, attributes := #[] }, { accessFlags := 24, nameIndex := 334, descriptorIndex := 335, attributes := #[] }, { accessFlags := 24, nameIndex := 341, descriptorIndex := 335, attributes := #[] }, { accessFlags := 24, nameIndex := 356, descriptorIndex := 335, attributes := #[] }, { accessFlags := 24, nameIndex := 364, descriptorIndex := 335, attributes := #[] }, { accessFlags := 24, nameIndex := 376, descriptorIndex := 335, attributes := #[] }, { accessFlags := 26, nameIndex := 395, descriptorIndex := 396, attributes := #[] }, { accessFlags := 26, nameIndex := 223, descriptorIndex := 224, attributes := #[] }, { accessFlags := 26, nameIndex := 227, descriptorIndex := 224, attributes := #[] }, { accessFlags := 26, nameIndex := 398, descriptorIndex := 396, attributes := #[] }, { accessFlags := 26, nameIndex := 263, descriptorIndex := 264, attributes := #[] }, { accessFlags := 26, nameIndex := 401, descriptorIndex := 12, attributes := #[] }, { accessFlags := 26, nameIndex := 402, descriptorIndex := 396, attributes := #[] }, { accessFlags := 18, nameIndex := 11, descriptorIndex := 12, attributes := #[] }, { accessFlags := 18, nameIndex := 15, descriptorIndex := 12, attributes := #[] }, { accessFlags := 18, nameIndex := 18, descriptorIndex := 19, attributes := #[] }, { accessFlags := 18, nameIndex := 22, descriptorIndex := 19, attributes := #[] }, { accessFlags := 18, nameIndex := 25, descriptorIndex := 19, attributes := #[] }, { accessFlags := 18, nameIndex := 28, descriptorIndex := 29, attributes := #[] }])
  fields := #[{ name := "TEXT_TYPE", type := (.object "java/lang/String"), accessFlags := 26, slot := 0, constantValue := 0 }, { name := "NUMBER_TYPE", type := (.object "java/lang/String"), accessFlags := 26, slot := 1, constantValue := 0 }, { name := "TEXT_RULE_TYPES", type := (.object "java/util/Set"), accessFlags := 26, slot := 2, constantValue := 0 }, { name := "INT_NUMBERS", type := (.object "com/example/formwright/formwright/Field$WholeNumbers"), accessFlags := 26, slot := 3, constantValue := 0 }, { name := "TEXT", type := (.object "com/example/formwright/formwright/InputKind"), accessFlags := 24, slot := 4, constantValue := 0 }, { name := "EMAIL", type := (.object "com/example/formwright/formwright/InputKind"), accessFlags := 24, slot := 5, constantValue := 0 }, { name := "DATE", type := (.object "com/example/formwright/formwright/InputKind"), accessFlags := 24, slot := 6, constantValue := 0 }, { name := "WHOLE_NUMBER", type := (.object "com/example/formwright/formwright/InputKind"), accessFlags := 24, slot := 7, constantValue := 0 }, { name := "DECIMAL", type := (.object "com/example/formwright/formwright/InputKind"), accessFlags := 24, slot := 8, constantValue := 0 }, { name := "MAX_DECIMAL_DIGITS", type := .int, accessFlags := 26, slot := 9, constantValue := 0 }, { name := "NOT_A_DECIMAL", type := (.object "com/example/formwright/formwright/Failure"), accessFlags := 26, slot := 10, constantValue := 0 }, { name := "TOO_MANY_DIGITS", type := (.object "com/example/formwright/formwright/Failure"), accessFlags := 26, slot := 11, constantValue := 0 }, { name := "DIGITS_IN_A_LONG", type := .int, accessFlags := 26, slot := 12, constantValue := 0 }, { name := "POWERS_OF_TEN", type := (.object "java/util/List"), accessFlags := 26, slot := 13, constantValue := 0 }, { name := "EMAIL_LOCAL_SYMBOLS", type := (.object "java/lang/String"), accessFlags := 26, slot := 14, constantValue := 0 }, { name := "MAX_HOST_LABEL_LENGTH", type := .int, accessFlags := 26, slot := 15, constantValue := 0 }, { name := "type", type := (.object "java/lang/String"), accessFlags := 18, slot := 1, constantValue := 0 }, { name := "step", type := (.object "java/lang/String"), accessFlags := 18, slot := 2, constantValue := 0 }, { name := "refusal", type := (.object "java/util/function/Function"), accessFlags := 18, slot := 3, constantValue := 0 }, { name := "reader", type := (.object "java/util/function/Function"), accessFlags := 18, slot := 4, constantValue := 0 }, { name := "writer", type := (.object "java/util/function/Function"), accessFlags := 18, slot := 5, constantValue := 0 }, { name := "wholeNumbers", type := (.object "com/example/formwright/formwright/Field$WholeNumbers"), accessFlags := 18, slot := 6, constantValue := 0 }]
  methods := #[k3m0, k3m1]
  instanceTypes := #[(.object "java/lang/Class"), (.object "java/lang/String"), (.object "java/lang/String"), (.object "java/util/function/Function"), (.object "java/util/function/Function"), (.object "java/util/function/Function"), (.object "com/example/formwright/formwright/Field$WholeNumbers")]
  staticTypes := #[(.object "java/lang/String"), (.object "java/lang/String"), (.object "java/util/Set"), (.object "com/example/formwright/formwright/Field$WholeNumbers"), (.object "com/example/formwright/formwright/InputKind"), (.object "com/example/formwright/formwright/InputKind"), (.object "com/example/formwright/formwright/InputKind"), (.object "com/example/formwright/formwright/InputKind"), (.object "com/example/formwright/formwright/InputKind"), .int, (.object "com/example/formwright/formwright/Failure"), (.object "com/example/formwright/formwright/Failure"), .int, (.object "java/util/List"), (.object "java/lang/String"), .int]
  resolved := Array.replicate 531 none
  statics := none }

def pool4 : Array CpInfo := pool [(1, u "java/lang/Cloneable"), (0, .class_ 1), (0, u "java/lang/Object"), (0, .class_ 3)] 3

/-- java/lang/Cloneable -/
def k4 : Class := { plain "java/lang/Cloneable" (some 0) with
  accessFlags := 1537
  interfaces := #[]
  cf := some (fileOf pool4 2 #[] #[] 1537 4 #[] #[])
  fields := #[]
  methods := #[]
  instanceTypes := #[]
  staticTypes := #[]
  resolved := Array.replicate 8 none
  statics := none }

def pool5 : Array CpInfo := pool [(1, u "java/io/Serializable"), (0, .class_ 1), (0, u "java/lang/Object"), (0, .class_ 3)] 3

/-- java/io/Serializable -/
def k5 : Class := { plain "java/io/Serializable" (some 0) with
  accessFlags := 1537
  interfaces := #[]
  cf := some (fileOf pool5 2 #[] #[] 1537 4 #[] #[])
  fields := #[]
  methods := #[]
  instanceTypes := #[]
  staticTypes := #[]
  resolved := Array.replicate 8 none
  statics := none }

/-- the primitive byte -/
def k6 : Class := { plain "byte" none with kind := .primitive 'B', accessFlags := 0x411 }
/-- [B -/
def k7 : Class := { plain "[B" (some 0) with kind := .array 6 .byte, interfaces := #[4, 5], accessFlags := 1041 }

/-- the primitive int -/
def k8 : Class := { plain "int" none with kind := .primitive 'I', accessFlags := 0x411 }
/-- [I -/
def k9 : Class := { plain "[I" (some 0) with kind := .array 8 .int, interfaces := #[4, 5], accessFlags := 1041 }

def heap : Heap := #[]
def classes : Array Class := #[k0, k1, k2, k3, k4, k5, k6, k7, k8, k9]
def interned : List (Array UInt16 × Addr) := []
def slotsUsed : Nat := 0
def theMethod : MethodId := ⟨1, 1⟩
def args0 : Array Value := #[.int 65]
def aboutOver (below : List Frame) : State where
  vm := { classes := classes, interned := interned.toArray }
  heap := heap
  slotsUsed := slotsUsed
  threads := #[{ frames := .invoking theMethod args0 :: below }]
def below0 : List Frame := [.native { method := ⟨0, 0⟩, args := #[] }]
def about1 : State := aboutOver below0
def p0 : Program := .bare "" "" ""
def e0 : Env := launch0.env 0 0 0
theorem w_frames : about1.frames = Frame.invoking theMethod args0 :: below0 := rfl
set_option maxRecDepth 65536 in
theorem w_args : argsFit about1.vm theMethod args0 = true := by decide +kernel
set_option maxRecDepth 65536 in
theorem w_heap : heapFits about1 = true := by decide +kernel
set_option maxRecDepth 65536 in
theorem w_runnable : about1.curStatus? = some .runnable := by decide +kernel
set_option maxRecDepth 65536 in
theorem w_alone : about1.alone = true := by decide +kernel
set_option maxRecDepth 65536 in
theorem w_named : about1.methodNamed? x = some theMethod := by decide +kernel
set_option maxRecDepth 65536 in
theorem w_hears : about1.hears theMethod below0 = true := by decide +kernel
set_option maxRecDepth 65536 in
theorem w_ripe : about1.ripe theMethod args0 below0 = true := by decide +kernel
theorem w_running : about1.status = .running := rfl
set_option maxRecDepth 65536 in
theorem w_room : about1.hasRoom e0.platform room_1 = true :=
  launch0.hasRoom_least _ room_1 (by decide +kernel) (by decide +kernel) (by decide +kernel) (by decide +kernel) (by decide +kernel) (by decide +kernel)
theorem allAtoms_all (ts : List Jvm.Cond) (a : Array Jvm.Value) (st : Jvm.State) : (allAtoms ts).before a st = ts.all (fun c => c.before a st) := by
  induction ts with
  | nil => rfl
  | cons c t ih =>
    show (Jvm.Cond.and c (allAtoms t)).before a st = _
    rw [Jvm.Cond.before_and, ih, List.all_cons]
def words1 : List Jvm.Cond := Jvm.Cond.code x code maxLocals ret :: tables_1
/-- a 'code' word, met by the world's own term for the bytes: nothing is compared byte by byte -/
theorem code_word {y : MethodName} {bytes : ByteArray} {mx : Nat} {rt : Option FieldType} {a : Array Value} {s : State} {m : MethodId} {meth : Method} {c : Code} (h1 : s.methodNamed? y = some m) (h2 : s.vm.method? m = some meth) (h3 : meth.code = some c) (h4 : c.code = bytes)
    (h5 : (c.maxLocals == mx && c.exceptionTable.isEmpty && decide (c.maxStack ≤ mostOperands) && decide (meth.sig.returnType = rt) && !meth.locks && decide (parseMethodDescriptor y.desc = some meth.sig)) = true) : (Jvm.Cond.code y bytes mx rt).before a s = true := by
  simp only [Bool.and_eq_true, beq_iff_eq, Bool.not_eq_true', decide_eq_true_eq] at h5
  obtain ⟨⟨⟨⟨⟨g1, g2⟩, g3⟩, g4⟩, g5⟩, g6⟩ := h5
  simp [Cond.before, Cond.holds, Cond.value, h1, h2, h3, h4, g1, g2, g3, g4, g5, g6]
def isCode : Jvm.Cond → Bool
  | .code _ _ _ _ => true
  | _ => false
theorem all_split {L : List Jvm.Cond} {P : Jvm.Cond → Bool} (h1 : L.all (fun c => isCode c || P c) = true) (h2 : ∀ c ∈ L.filter isCode, P c = true) : L.all P = true := by
  refine List.all_eq_true.mpr fun c hc => ?_
  have h := List.all_eq_true.mp h1 c hc
  rcases Bool.eq_false_or_eq_true (isCode c) with hi | hi
  · exact h2 c (List.mem_filter.mpr ⟨hc, hi⟩)
  · simpa [hi] using h
set_option maxRecDepth 65536 in
theorem w_c0 : (Jvm.Cond.code x code maxLocals ret).before args0 about1 = true := code_word (m := ⟨1, 1⟩) (meth := k1m1) (c := k1c1) (by decide +kernel) rfl rfl rfl (by decide +kernel)
set_option maxRecDepth 65536 in
theorem w_c1 : (Jvm.Cond.code ({ cls := "com/example/formwright/formwright/InputKind", name := "isAsciiLetterOrDigit", desc := "(C)Z" } : Jvm.MethodName) prog_21_method_14_code (1 : Nat) (Option.some Jvm.ClassFile.FieldType.boolean)).before args0 about1 = true := code_word (m := ⟨3, 0⟩) (meth := k3m0) (c := k3c0) (by decide +kernel) rfl rfl rfl (by decide +kernel)
set_option maxRecDepth 65536 in
theorem w_c2 : (Jvm.Cond.code ({ cls := "com/example/formwright/formwright/InputKind", name := "isAsciiDigit", desc := "(C)Z" } : Jvm.MethodName) prog_21_method_15_code (1 : Nat) (Option.some Jvm.ClassFile.FieldType.boolean)).before args0 about1 = true := code_word (m := ⟨3, 1⟩) (meth := k3m1) (c := k3c1) (by decide +kernel) rfl rfl rfl (by decide +kernel)
set_option maxRecDepth 65536 in
theorem w_c3 : (Jvm.Cond.code ({ cls := "com/example/formwright/formwright/InputKindIsAsciiLetterOrDigitPinLaw", name := "expected", desc := "(C)Z" } : Jvm.MethodName) method_3_code (5 : Nat) (Option.some Jvm.ClassFile.FieldType.boolean)).before args0 about1 = true := code_word (m := ⟨1, 2⟩) (meth := k1m2) (c := k1c2) (by decide +kernel) rfl rfl rfl (by decide +kernel)
def codes1 : List Jvm.Cond := [Jvm.Cond.code x code maxLocals ret, Jvm.Cond.code ({ cls := "com/example/formwright/formwright/InputKind", name := "isAsciiLetterOrDigit", desc := "(C)Z" } : Jvm.MethodName) prog_21_method_14_code (1 : Nat) (Option.some Jvm.ClassFile.FieldType.boolean), Jvm.Cond.code ({ cls := "com/example/formwright/formwright/InputKind", name := "isAsciiDigit", desc := "(C)Z" } : Jvm.MethodName) prog_21_method_15_code (1 : Nat) (Option.some Jvm.ClassFile.FieldType.boolean), Jvm.Cond.code ({ cls := "com/example/formwright/formwright/InputKindIsAsciiLetterOrDigitPinLaw", name := "expected", desc := "(C)Z" } : Jvm.MethodName) method_3_code (5 : Nat) (Option.some Jvm.ClassFile.FieldType.boolean)]
set_option maxRecDepth 65536 in
theorem codes_eq : words1.filter isCode = codes1 := rfl
theorem w_codes : ∀ c ∈ words1.filter isCode, c.before args0 about1 = true := by
  rw [codes_eq]
  intro c hc
  simp only [codes1, List.mem_cons, List.not_mem_nil, or_false] at hc
  rcases hc with rfl | rfl | rfl | rfl
  · exact w_c0
  · exact w_c1
  · exact w_c2
  · exact w_c3
set_option maxRecDepth 65536 in
theorem w_t1 : words1.all (fun c => isCode c || c.before args0 about1) = true := by decide +kernel
theorem w_tables : (allAtoms (Jvm.Cond.code x code maxLocals ret :: tables_1)).before args0 about1 = true := by
  rw [allAtoms_all]
  show words1.all (fun c => c.before args0 about1) = true
  refine all_split ?_ w_codes
  rw [w_t1]
set_option maxRecDepth 65536 in
theorem w_case : (Jvm.Cond.and given_1 narrow_1).before args0 about1 = true := by decide +kernel
theorem w_applies : (headSpec (Jvm.Cond.code x code maxLocals ret :: tables_1) room_1).applies x e0.platform about1 = true :=
  (Spec.applies_iff w_frames).mpr ⟨w_running, w_runnable, w_alone, w_named, w_hears, w_ripe, w_room, w_tables⟩
theorem atStart : AtStart classFile x code maxLocals ret World_1 tables_1 room_1 Calls_1 rest_1 Pre_1 launch0 p0 e0 about1 theMethod args0 below0 :=
  ⟨lists_1, trivial, launch0.admits_env _ _ _, launch0.least_env, fairChoices_fair.cas, fairChoices_fair.clock, w_frames, w_args, w_heap, w_applies, trivial, trivial, w_case⟩
end start1
theorem witness_1 : WitnessClaimed_1 := ⟨start1.p0, start1.e0, start1.about1, start1.theMethod, start1.args0, start1.below0, start1.atStart⟩
end Jvm.Pilot.@@N@@
