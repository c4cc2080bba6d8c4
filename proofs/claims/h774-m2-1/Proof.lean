import JvmDerived
import JvmDerived.Pilot.@@N@@Statement
import JvmDerived.Pilot.@@N@@Code
set_option linter.unusedVariables false
set_option linter.unusedSimpArgs false
namespace Jvm.Pilot.@@N@@
open Jvm Jvm.ClassFile Sem Op Lib Jvm.Free Jvm.Stand Jvm.LawKit Jvm.RoadKit Bundle Jvm.Pilot.@@N@@.Jvm.D
/-! the walk goes on from A and ends as P says -/
def OGo (tb : Tables) (e : Env) (below : List Frame) (P : State → Outcome → Prop) (A : State) : Prop := ∃ U o, Steps tb e below A U ∧ U.status = .running ∧ Ended U below o ∧ P U o
def OPost (s : State) (Q : Option Value → Heap → List Loc → Prop) (k n : Nat) (U : State) (o : Outcome) : Prop := ∃ v L, o = .returned v ∧ Q v U.heap L ∧ FrameEnd s o U L k n
theorem OGo.st {tb : Tables} {e : Env} {below : List Frame} {P : State → Outcome → Prop} {A B : State} (st : ∀ t, Steps tb e below B t → Steps tb e below A t) (h : OGo tb e below P B) : OGo tb e below P A := by
  obtain ⟨U, o, h1, h2⟩ := h; exact ⟨U, o, st _ h1, h2⟩
theorem OGo.tr {tb : Tables} {e : Env} {below : List Frame} {P : State → Outcome → Prop} {A B : State} (st : Steps tb e below A B) (h : OGo tb e below P B) : OGo tb e below P A := by
  obtain ⟨U, o, h1, h2⟩ := h; exact ⟨U, o, st.trans h1, h2⟩
theorem OGo.enter {tb : Tables} {e : Env} {below : List Frame} {P : State → Outcome → Prop} {T : State} {g g' : JFrame} (q : g = g') (h : OGo tb e below P (T.setTop g')) : OGo tb e below P (T.setTop g) := q ▸ h
section Own
variable {p : Program} {l : Launch} {e : Env} {R : Room} {s : State} {m : MethodId} {args : Array Value} {below : List Frame} {meth : Method} {c : Code} {T : State} {locs : List Loc} {cells slots k n : Nat} {Q : Option Value → Heap → List Loc → Prop}
theorem OGo.fin (X : Stand p l e R s m args below meth c T locs cells slots) {v : Option Value} (hv : meth.sig.returnType = none → v = none) (hlk : meth.locks = false) {g : JFrame}
    (hst : ∀ fs, (∀ (f : JFrame) (acts : List Action), f.method = m → f.locked = none → f.entered = [] → (doReturn e (T.setTop f) acts v).1 = T.setFrames fs) → Steps p.tables e below (T.setTop g) (T.setFrames fs)) (hq : Q v T.heap locs) (hk : cells ≤ k) (hn : slots ≤ n) : OGo p.tables e below (OPost s Q k n) (T.setTop g) := by
  obtain ⟨fs, hr, hrun, hended, hW, hsame⟩ := X.leave hv hlk
  exact ⟨_, _, hst fs hr, hrun, hended, _, _, rfl, hq, ⟨_, rfl⟩, hW, hsame.mono hk hn⟩
theorem own_wide (X : Stand p l e R s m args below meth c T locs cells slots) {k n : Nat} (hk : cells ≤ k) (hn : slots ≤ n) : Stand p l e R s m args below meth c T locs k n := { X with same := X.same.mono hk hn }
end Own
abbrev OMet (l : Launch) (Z : State) (y : MethodName) (code : ByteArray) (ml : Nat) (ret : Option FieldType) (ws : List Jvm.Cond) (rm : Room) (as : Array Value) (h0 : Heap) (Q : Option Value → Heap → List Loc → Prop) : Prop :=
  MetFree l y (head1 (Jvm.Cond.code y code ml ret :: ws) rm) (fun a U => a = as ∧ Z.Warmed39 U.vm ∧ U.heap = h0) (fun _ _ _ _ _ => True) (fun _ U o U' => ∃ v L, o = .returned v ∧ Q v U'.heap L ∧ FrameEnd U o U' L rm.cells rm.slots)
def own_idx (i : Int32) : Nat := (if i = 0 then 0 else (if i = 1 then 1 else (if i = 2 then 2 else (if i = 3 then 3 else (if i = 4 then 4 else (if i = 5 then 5 else (if i = 6 then 6 else (if i = 7 then 7 else (if i = 8 then 8 else (if i = 9 then 9 else (if i = 10 then 10 else (if i = 11 then 11 else (if i = 12 then 12 else (if i = 13 then 13 else 14))))))))))))))
def own_ae (W : Nat → Addr) (a : Addr) : Addr := if a = W 1 then W 2 else a
theorem own_idx_lt (i : Int32) : own_idx i < 15 := by
  unfold own_idx
  by_cases h0 : i = 0
  · rw [if_pos h0]; decide
  rw [if_neg h0]
  by_cases h1 : i = 1
  · rw [if_pos h1]; decide
  rw [if_neg h1]
  by_cases h2 : i = 2
  · rw [if_pos h2]; decide
  rw [if_neg h2]
  by_cases h3 : i = 3
  · rw [if_pos h3]; decide
  rw [if_neg h3]
  by_cases h4 : i = 4
  · rw [if_pos h4]; decide
  rw [if_neg h4]
  by_cases h5 : i = 5
  · rw [if_pos h5]; decide
  rw [if_neg h5]
  by_cases h6 : i = 6
  · rw [if_pos h6]; decide
  rw [if_neg h6]
  by_cases h7 : i = 7
  · rw [if_pos h7]; decide
  rw [if_neg h7]
  by_cases h8 : i = 8
  · rw [if_pos h8]; decide
  rw [if_neg h8]
  by_cases h9 : i = 9
  · rw [if_pos h9]; decide
  rw [if_neg h9]
  by_cases h10 : i = 10
  · rw [if_pos h10]; decide
  rw [if_neg h10]
  by_cases h11 : i = 11
  · rw [if_pos h11]; decide
  rw [if_neg h11]
  by_cases h12 : i = 12
  · rw [if_pos h12]; decide
  rw [if_neg h12]
  by_cases h13 : i = 13
  · rw [if_pos h13]; decide
  rw [if_neg h13]
  decide
theorem own_idx_ne {i : Int32} (h : ¬ i = 1) : own_idx i ≠ 1 := by
  unfold own_idx
  by_cases h0 : i = 0
  · rw [if_pos h0]; decide
  rw [if_neg h0]
  rw [if_neg h]
  by_cases h2 : i = 2
  · rw [if_pos h2]; decide
  rw [if_neg h2]
  by_cases h3 : i = 3
  · rw [if_pos h3]; decide
  rw [if_neg h3]
  by_cases h4 : i = 4
  · rw [if_pos h4]; decide
  rw [if_neg h4]
  by_cases h5 : i = 5
  · rw [if_pos h5]; decide
  rw [if_neg h5]
  by_cases h6 : i = 6
  · rw [if_pos h6]; decide
  rw [if_neg h6]
  by_cases h7 : i = 7
  · rw [if_pos h7]; decide
  rw [if_neg h7]
  by_cases h8 : i = 8
  · rw [if_pos h8]; decide
  rw [if_neg h8]
  by_cases h9 : i = 9
  · rw [if_pos h9]; decide
  rw [if_neg h9]
  by_cases h10 : i = 10
  · rw [if_pos h10]; decide
  rw [if_neg h10]
  by_cases h11 : i = 11
  · rw [if_pos h11]; decide
  rw [if_neg h11]
  by_cases h12 : i = 12
  · rw [if_pos h12]; decide
  rw [if_neg h12]
  by_cases h13 : i = 13
  · rw [if_pos h13]; decide
  rw [if_neg h13]
  decide
theorem own_p1 (W : Nat → Addr) (hne : ∀ k, k < 15 → k ≠ 1 → W k ≠ W 1) {i v : Int32} (hv : v = (if i = (1 : Int32) then (2 : Int32) else i)) : own_ae W (W (own_idx i)) = W (own_idx v) := by
  by_cases h : i = 1
  · subst h; rw [if_pos rfl] at hv; subst hv; show (if W 1 = W 1 then W 2 else W 1) = W 2; rw [if_pos rfl]
  · rw [if_neg h] at hv; subst hv; unfold own_ae; rw [if_neg (hne _ (own_idx_lt _) (own_idx_ne h))]
theorem own_p2 (W : Nat → Addr) (hne : ∀ k, k < 15 → k ≠ 1 → W k ≠ W 1) {i v : Int32} (hv : v = (if i = (1 : Int32) then (2 : Int32) else i)) : own_ae W (W (own_idx v)) = W (own_idx v) := by
  have q : ¬ v = 1 := by
    by_cases h : i = 1
    · rw [if_pos h] at hv; subst hv; decide
    · rw [if_neg h] at hv; subst hv; exact h
  unfold own_ae; rw [if_neg (hne _ (own_idx_lt _) (own_idx_ne q))]
theorem own_ord {args : Array Value} {s : State} {t : Term} {w : Addr} {o : Int32} {C n d : String} (ev : t.eval args s none [] s = some (.ref w)) (c : (Jvm.Cond.eq (.field t C n d) (.int o)).value args s none s [] = some true) : Fld s s.heap w C n d (.int o) := by
  obtain ⟨x, y, e1, e2, k1, k2⟩ := cmp_v (Or.inl c)
  have e3 : y = .int o := Option.some.inj (e2.symm.trans (Term.int_eval o))
  subst e3
  obtain ⟨z, rfl⟩ : ∃ z, x = .int z := k2
  have q := gotT (Cond.eq_ints e1 (Term.int_eval o)) c
  subst q
  rw [fld_at ev] at e1
  exact Fld.start e1
theorem own_d_method_3_code_0 : decode method_3_code 0 = .ok (.iload_n 0, 1) := by decide +kernel
theorem own_d_method_3_code_1 : decode method_3_code 1 = .ok (.ifCond .ne 7, 3) := by decide +kernel
theorem own_d_method_3_code_4 : decode method_3_code 4 = .ok (.getstatic 20, 3) := by decide +kernel
theorem own_d_method_3_code_7 : decode method_3_code 7 = .ok (.areturn, 1) := by decide +kernel
theorem own_d_method_3_code_8 : decode method_3_code 8 = .ok (.iload_n 0, 1) := by decide +kernel
theorem own_d_method_3_code_9 : decode method_3_code 9 = .ok (.iconst 1, 1) := by decide +kernel
theorem own_d_method_3_code_10 : decode method_3_code 10 = .ok (.if_icmp .ne 7, 3) := by decide +kernel
theorem own_d_method_3_code_13 : decode method_3_code 13 = .ok (.getstatic 24, 3) := by decide +kernel
theorem own_d_method_3_code_16 : decode method_3_code 16 = .ok (.areturn, 1) := by decide +kernel
theorem own_d_method_3_code_17 : decode method_3_code 17 = .ok (.iload_n 0, 1) := by decide +kernel
theorem own_d_method_3_code_18 : decode method_3_code 18 = .ok (.iconst 2, 1) := by decide +kernel
theorem own_d_method_3_code_19 : decode method_3_code 19 = .ok (.if_icmp .ne 7, 3) := by decide +kernel
theorem own_d_method_3_code_22 : decode method_3_code 22 = .ok (.getstatic 27, 3) := by decide +kernel
theorem own_d_method_3_code_25 : decode method_3_code 25 = .ok (.areturn, 1) := by decide +kernel
theorem own_d_method_3_code_26 : decode method_3_code 26 = .ok (.iload_n 0, 1) := by decide +kernel
theorem own_d_method_3_code_27 : decode method_3_code 27 = .ok (.iconst 3, 1) := by decide +kernel
theorem own_d_method_3_code_28 : decode method_3_code 28 = .ok (.if_icmp .ne 7, 3) := by decide +kernel
theorem own_d_method_3_code_31 : decode method_3_code 31 = .ok (.getstatic 30, 3) := by decide +kernel
theorem own_d_method_3_code_34 : decode method_3_code 34 = .ok (.areturn, 1) := by decide +kernel
theorem own_d_method_3_code_35 : decode method_3_code 35 = .ok (.iload_n 0, 1) := by decide +kernel
theorem own_d_method_3_code_36 : decode method_3_code 36 = .ok (.iconst 4, 1) := by decide +kernel
theorem own_d_method_3_code_37 : decode method_3_code 37 = .ok (.if_icmp .ne 7, 3) := by decide +kernel
theorem own_d_method_3_code_40 : decode method_3_code 40 = .ok (.getstatic 33, 3) := by decide +kernel
theorem own_d_method_3_code_43 : decode method_3_code 43 = .ok (.areturn, 1) := by decide +kernel
theorem own_d_method_3_code_44 : decode method_3_code 44 = .ok (.iload_n 0, 1) := by decide +kernel
theorem own_d_method_3_code_45 : decode method_3_code 45 = .ok (.iconst 5, 1) := by decide +kernel
theorem own_d_method_3_code_46 : decode method_3_code 46 = .ok (.if_icmp .ne 7, 3) := by decide +kernel
theorem own_d_method_3_code_49 : decode method_3_code 49 = .ok (.getstatic 36, 3) := by decide +kernel
theorem own_d_method_3_code_52 : decode method_3_code 52 = .ok (.areturn, 1) := by decide +kernel
theorem own_d_method_3_code_53 : decode method_3_code 53 = .ok (.iload_n 0, 1) := by decide +kernel
theorem own_d_method_3_code_54 : decode method_3_code 54 = .ok (.bipush 6, 2) := by decide +kernel
theorem own_d_method_3_code_56 : decode method_3_code 56 = .ok (.if_icmp .ne 7, 3) := by decide +kernel
theorem own_d_method_3_code_59 : decode method_3_code 59 = .ok (.getstatic 39, 3) := by decide +kernel
theorem own_d_method_3_code_62 : decode method_3_code 62 = .ok (.areturn, 1) := by decide +kernel
theorem own_d_method_3_code_63 : decode method_3_code 63 = .ok (.iload_n 0, 1) := by decide +kernel
theorem own_d_method_3_code_64 : decode method_3_code 64 = .ok (.bipush 7, 2) := by decide +kernel
theorem own_d_method_3_code_66 : decode method_3_code 66 = .ok (.if_icmp .ne 7, 3) := by decide +kernel
theorem own_d_method_3_code_69 : decode method_3_code 69 = .ok (.getstatic 42, 3) := by decide +kernel
theorem own_d_method_3_code_72 : decode method_3_code 72 = .ok (.areturn, 1) := by decide +kernel
theorem own_d_method_3_code_73 : decode method_3_code 73 = .ok (.iload_n 0, 1) := by decide +kernel
theorem own_d_method_3_code_74 : decode method_3_code 74 = .ok (.bipush 8, 2) := by decide +kernel
theorem own_d_method_3_code_76 : decode method_3_code 76 = .ok (.if_icmp .ne 7, 3) := by decide +kernel
theorem own_d_method_3_code_79 : decode method_3_code 79 = .ok (.getstatic 45, 3) := by decide +kernel
theorem own_d_method_3_code_82 : decode method_3_code 82 = .ok (.areturn, 1) := by decide +kernel
theorem own_d_method_3_code_83 : decode method_3_code 83 = .ok (.iload_n 0, 1) := by decide +kernel
theorem own_d_method_3_code_84 : decode method_3_code 84 = .ok (.bipush 9, 2) := by decide +kernel
theorem own_d_method_3_code_86 : decode method_3_code 86 = .ok (.if_icmp .ne 7, 3) := by decide +kernel
theorem own_d_method_3_code_89 : decode method_3_code 89 = .ok (.getstatic 48, 3) := by decide +kernel
theorem own_d_method_3_code_92 : decode method_3_code 92 = .ok (.areturn, 1) := by decide +kernel
theorem own_d_method_3_code_93 : decode method_3_code 93 = .ok (.iload_n 0, 1) := by decide +kernel
theorem own_d_method_3_code_94 : decode method_3_code 94 = .ok (.bipush 10, 2) := by decide +kernel
theorem own_d_method_3_code_96 : decode method_3_code 96 = .ok (.if_icmp .ne 7, 3) := by decide +kernel
theorem own_d_method_3_code_99 : decode method_3_code 99 = .ok (.getstatic 51, 3) := by decide +kernel
theorem own_d_method_3_code_102 : decode method_3_code 102 = .ok (.areturn, 1) := by decide +kernel
theorem own_d_method_3_code_103 : decode method_3_code 103 = .ok (.iload_n 0, 1) := by decide +kernel
theorem own_d_method_3_code_104 : decode method_3_code 104 = .ok (.bipush 11, 2) := by decide +kernel
theorem own_d_method_3_code_106 : decode method_3_code 106 = .ok (.if_icmp .ne 7, 3) := by decide +kernel
theorem own_d_method_3_code_109 : decode method_3_code 109 = .ok (.getstatic 54, 3) := by decide +kernel
theorem own_d_method_3_code_112 : decode method_3_code 112 = .ok (.areturn, 1) := by decide +kernel
theorem own_d_method_3_code_113 : decode method_3_code 113 = .ok (.iload_n 0, 1) := by decide +kernel
theorem own_d_method_3_code_114 : decode method_3_code 114 = .ok (.bipush 12, 2) := by decide +kernel
theorem own_d_method_3_code_116 : decode method_3_code 116 = .ok (.if_icmp .ne 7, 3) := by decide +kernel
theorem own_d_method_3_code_119 : decode method_3_code 119 = .ok (.getstatic 57, 3) := by decide +kernel
theorem own_d_method_3_code_122 : decode method_3_code 122 = .ok (.areturn, 1) := by decide +kernel
theorem own_d_method_3_code_123 : decode method_3_code 123 = .ok (.iload_n 0, 1) := by decide +kernel
theorem own_d_method_3_code_124 : decode method_3_code 124 = .ok (.bipush 13, 2) := by decide +kernel
theorem own_d_method_3_code_126 : decode method_3_code 126 = .ok (.if_icmp .ne 7, 3) := by decide +kernel
theorem own_d_method_3_code_129 : decode method_3_code 129 = .ok (.getstatic 60, 3) := by decide +kernel
theorem own_d_method_3_code_132 : decode method_3_code 132 = .ok (.areturn, 1) := by decide +kernel
theorem own_d_method_3_code_133 : decode method_3_code 133 = .ok (.getstatic 63, 3) := by decide +kernel
theorem own_d_method_3_code_136 : decode method_3_code 136 = .ok (.areturn, 1) := by decide +kernel
theorem own_pn0 : plainName "com/example/weaverbird/weaverbird/cppgen/FormAsElementPinLaw" = true := by first | (simp [plainName, overriddenIn]; done) | decide +kernel
theorem own_ef_rm1 (m : MethodId) (x0 : Int32) : entryFrame m #[(.int x0)] 1 = mkF m 0 #[.val (.int x0)] [] := by first | (simp [entryFrame, mkF, argsToLocals, Value.category]; done) | rfl
def own_Q_rm1 (Z : State) (p1 : Int32) (W : Nat → Addr) (h0 : Heap) (n0 : Nat) (v : Option Value) (h : Heap) (L : List Loc) : Prop := v = some (.ref (W (own_idx p1))) ∧ Fr n0 L ∧ h = h0
set_option maxRecDepth 65536 in
set_option maxHeartbeats 40000000 in
theorem rm1 (l : Launch) (Z : State) (a0 : Array Value) (hw : ∀ d ∈ tables_1, d.before a0 Z = true) (ws : List Jvm.Cond) (p1 : Int32) (W : Nat → Addr) (h0 : Heap) (n0 : Nat) (Z0 : n0 ≤ h0.size) (S_BOOLEAN : Sta Z h0 "com/example/weaverbird/weaverbird/cppgen/CppType$Form" "BOOLEAN" "Lcom/example/weaverbird/weaverbird/cppgen/CppType$Form;" (.ref (W 0))) (S_BYTE : Sta Z h0 "com/example/weaverbird/weaverbird/cppgen/CppType$Form" "BYTE" "Lcom/example/weaverbird/weaverbird/cppgen/CppType$Form;" (.ref (W 1))) (S_UNSIGNED_BYTE : Sta Z h0 "com/example/weaverbird/weaverbird/cppgen/CppType$Form" "UNSIGNED_BYTE" "Lcom/example/weaverbird/weaverbird/cppgen/CppType$Form;" (.ref (W 2))) (S_CHAR : Sta Z h0 "com/example/weaverbird/weaverbird/cppgen/CppType$Form" "CHAR" "Lcom/example/weaverbird/weaverbird/cppgen/CppType$Form;" (.ref (W 3))) (S_INT : Sta Z h0 "com/example/weaverbird/weaverbird/cppgen/CppType$Form" "INT" "Lcom/example/weaverbird/weaverbird/cppgen/CppType$Form;" (.ref (W 4))) (S_LONG : Sta Z h0 "com/example/weaverbird/weaverbird/cppgen/CppType$Form" "LONG" "Lcom/example/weaverbird/weaverbird/cppgen/CppType$Form;" (.ref (W 5))) (S_FLOAT : Sta Z h0 "com/example/weaverbird/weaverbird/cppgen/CppType$Form" "FLOAT" "Lcom/example/weaverbird/weaverbird/cppgen/CppType$Form;" (.ref (W 6))) (S_DOUBLE : Sta Z h0 "com/example/weaverbird/weaverbird/cppgen/CppType$Form" "DOUBLE" "Lcom/example/weaverbird/weaverbird/cppgen/CppType$Form;" (.ref (W 7))) (S_STRING16 : Sta Z h0 "com/example/weaverbird/weaverbird/cppgen/CppType$Form" "STRING16" "Lcom/example/weaverbird/weaverbird/cppgen/CppType$Form;" (.ref (W 8))) (S_UTF8 : Sta Z h0 "com/example/weaverbird/weaverbird/cppgen/CppType$Form" "UTF8" "Lcom/example/weaverbird/weaverbird/cppgen/CppType$Form;" (.ref (W 9))) (S_BINDER : Sta Z h0 "com/example/weaverbird/weaverbird/cppgen/CppType$Form" "BINDER" "Lcom/example/weaverbird/weaverbird/cppgen/CppType$Form;" (.ref (W 10))) (S_NULLABLE_BINDER : Sta Z h0 "com/example/weaverbird/weaverbird/cppgen/CppType$Form" "NULLABLE_BINDER" "Lcom/example/weaverbird/weaverbird/cppgen/CppType$Form;" (.ref (W 11))) (S_FILE_DESCRIPTOR : Sta Z h0 "com/example/weaverbird/weaverbird/cppgen/CppType$Form" "FILE_DESCRIPTOR" "Lcom/example/weaverbird/weaverbird/cppgen/CppType$Form;" (.ref (W 12))) (S_PARCEL_FILE_DESCRIPTOR : Sta Z h0 "com/example/weaverbird/weaverbird/cppgen/CppType$Form" "PARCEL_FILE_DESCRIPTOR" "Lcom/example/weaverbird/weaverbird/cppgen/CppType$Form;" (.ref (W 13))) (S_PARCELABLE_HOLDER : Sta Z h0 "com/example/weaverbird/weaverbird/cppgen/CppType$Form" "PARCELABLE_HOLDER" "Lcom/example/weaverbird/weaverbird/cppgen/CppType$Form;" (.ref (W 14))) :
    OMet l Z (⟨"com/example/weaverbird/weaverbird/cppgen/FormAsElementPinLaw", "form", "(I)Lcom/example/weaverbird/weaverbird/cppgen/CppType$Form;"⟩ : MethodName) method_3_code 1 (some (.object "com/example/weaverbird/weaverbird/cppgen/CppType$Form")) ws ({ frames := 0, cells := 0, slots := 0, locals := 0 } : Room) #[(.int p1)] h0 (own_Q_rm1 Z p1 W h0 n0) := by
  refine MetFree.of_bodySF (plainFor_of_name own_pn0) hisR ?_
  intro p e s m args below meth c s₁ Bd hml0 hP hK
  obtain ⟨rfl, hZ, hh⟩ := hP
  have hx := Bd.exec
  have hby := Bd.bytes
  have hml : c.maxLocals = 1 := hml0
  have hown : s.vm.findClass "com/example/weaverbird/weaverbird/cppgen/FormAsElementPinLaw" = some m.cls := findClass_of_methodNamed Bd.named
  have hnm := (name_of_methodNamed Bd.named Bd.method).1
  have hlk : meth.locks = false := Bd.notSynchronized
  have X0 : Stand p l e ({ frames := 0, cells := 0, slots := 0, locals := 0 } : Room) s m #[(.int p1)] below meth c s₁ [] 0 0 := Stand.of_body Bd
  have e0 : s₁.heap = h0 := by rw [← hh, Bd.state]; rfl
  have N0 := Fr.nil n0
  refine OGo.enter (P := OPost s (own_Q_rm1 Z p1 W h0 n0) 0 0) (own_ef_rm1 m p1) ?_
  show OGo p.tables e below _ (s₁.setTop (mkF m 0 #[.val (.int p1)] []))
  refine OGo.st (fun _ k_ => XS.iloadN X0.here hx rfl (hb hby own_d_method_3_code_0) rfl k_) ?_
  show OGo p.tables e below _ (s₁.setTop (mkF m 1 #[.val (.int p1)] [(.int p1)]))
  by_cases hc1 : p1 = 0
  · refine OGo.st (fun _ k_ => XS.ifNo X0.here hx rfl (hb hby own_d_method_3_code_1) rfl (XT.i0_ne_f hc1) k_) ?_
    show OGo p.tables e below _ (s₁.setTop (mkF m 4 #[.val (.int p1)] []))
    obtain ⟨T1, X1, ez1, st1⟩ := getS X0 hx hZ hown (host := "") (hw _ (List.mem_of_getElem? (i := 5) rfl)) Via.refl e0 S_BOOLEAN (g := (mkF m 4 #[.val (.int p1)] [])) rfl (hb hby own_d_method_3_code_4)
    refine OGo.st st1 ?_
    show OGo p.tables e below _ (T1.setTop (mkF m 7 #[.val (.int p1)] [(.ref (W 0))]))
    refine OGo.fin X1 (v := some (.ref (W 0))) (fun h => by rw [Bd.returns] at h; cases h) hlk (fun fs hr => X1.areturnOut hx rfl Bd.returns rfl (hb hby own_d_method_3_code_7) hr) ?_ (by decide) (by decide)
    show own_Q_rm1 Z p1 W h0 n0 _ T1.heap _
    rw [ez1]
    exact ⟨by simp [own_idx, hc1], N0, rfl⟩
  · refine OGo.st (fun _ k_ => XS.ifYes X0.here hx rfl (pc0 := 1) (pc' := 8) rfl (hb hby own_d_method_3_code_1) rfl (XT.i0_ne_t hc1) (by decide) (by decide) k_) ?_
    show OGo p.tables e below _ (s₁.setTop (mkF m 8 #[.val (.int p1)] []))
    refine OGo.st (fun _ k_ => XS.iloadN X0.here hx rfl (hb hby own_d_method_3_code_8) rfl k_) ?_
    show OGo p.tables e below _ (s₁.setTop (mkF m 9 #[.val (.int p1)] [(.int p1)]))
    refine OGo.st (fun _ k_ => XS.iconst X0.here hx rfl (hb hby own_d_method_3_code_9) k_) ?_
    show OGo p.tables e below _ (s₁.setTop (mkF m 10 #[.val (.int p1)] [(.int (1 : Int32)), (.int p1)]))
    by_cases hc10 : p1 = (1 : Int32)
    · refine OGo.st (fun _ k_ => XS.icmpNo X0.here hx rfl (hb hby own_d_method_3_code_10) rfl (XT.ii_ne_f hc10) k_) ?_
      show OGo p.tables e below _ (s₁.setTop (mkF m 13 #[.val (.int p1)] []))
      obtain ⟨T2, X2, ez2, st2⟩ := getS X0 hx hZ hown (host := "") (hw _ (List.mem_of_getElem? (i := 35) rfl)) Via.refl e0 S_BYTE (g := (mkF m 13 #[.val (.int p1)] [])) rfl (hb hby own_d_method_3_code_13)
      refine OGo.st st2 ?_
      show OGo p.tables e below _ (T2.setTop (mkF m 16 #[.val (.int p1)] [(.ref (W 1))]))
      refine OGo.fin X2 (v := some (.ref (W 1))) (fun h => by rw [Bd.returns] at h; cases h) hlk (fun fs hr => X2.areturnOut hx rfl Bd.returns rfl (hb hby own_d_method_3_code_16) hr) ?_ (by decide) (by decide)
      show own_Q_rm1 Z p1 W h0 n0 _ T2.heap _
      rw [ez2]
      exact ⟨by simp [own_idx, hc1, hc10], N0, rfl⟩
    · refine OGo.st (fun _ k_ => XS.icmpYes X0.here hx rfl (pc0 := 10) (pc' := 17) rfl (hb hby own_d_method_3_code_10) rfl (XT.ii_ne_t hc10) (by decide) (by decide) k_) ?_
      show OGo p.tables e below _ (s₁.setTop (mkF m 17 #[.val (.int p1)] []))
      refine OGo.st (fun _ k_ => XS.iloadN X0.here hx rfl (hb hby own_d_method_3_code_17) rfl k_) ?_
      show OGo p.tables e below _ (s₁.setTop (mkF m 18 #[.val (.int p1)] [(.int p1)]))
      refine OGo.st (fun _ k_ => XS.iconst X0.here hx rfl (hb hby own_d_method_3_code_18) k_) ?_
      show OGo p.tables e below _ (s₁.setTop (mkF m 19 #[.val (.int p1)] [(.int (2 : Int32)), (.int p1)]))
      by_cases hc19 : p1 = (2 : Int32)
      · refine OGo.st (fun _ k_ => XS.icmpNo X0.here hx rfl (hb hby own_d_method_3_code_19) rfl (XT.ii_ne_f hc19) k_) ?_
        show OGo p.tables e below _ (s₁.setTop (mkF m 22 #[.val (.int p1)] []))
        obtain ⟨T3, X3, ez3, st3⟩ := getS X0 hx hZ hown (host := "") (hw _ (List.mem_of_getElem? (i := 27) rfl)) Via.refl e0 S_UNSIGNED_BYTE (g := (mkF m 22 #[.val (.int p1)] [])) rfl (hb hby own_d_method_3_code_22)
        refine OGo.st st3 ?_
        show OGo p.tables e below _ (T3.setTop (mkF m 25 #[.val (.int p1)] [(.ref (W 2))]))
        refine OGo.fin X3 (v := some (.ref (W 2))) (fun h => by rw [Bd.returns] at h; cases h) hlk (fun fs hr => X3.areturnOut hx rfl Bd.returns rfl (hb hby own_d_method_3_code_25) hr) ?_ (by decide) (by decide)
        show own_Q_rm1 Z p1 W h0 n0 _ T3.heap _
        rw [ez3]
        exact ⟨by simp [own_idx, hc1, hc10, hc19], N0, rfl⟩
      · refine OGo.st (fun _ k_ => XS.icmpYes X0.here hx rfl (pc0 := 19) (pc' := 26) rfl (hb hby own_d_method_3_code_19) rfl (XT.ii_ne_t hc19) (by decide) (by decide) k_) ?_
        show OGo p.tables e below _ (s₁.setTop (mkF m 26 #[.val (.int p1)] []))
        refine OGo.st (fun _ k_ => XS.iloadN X0.here hx rfl (hb hby own_d_method_3_code_26) rfl k_) ?_
        show OGo p.tables e below _ (s₁.setTop (mkF m 27 #[.val (.int p1)] [(.int p1)]))
        refine OGo.st (fun _ k_ => XS.iconst X0.here hx rfl (hb hby own_d_method_3_code_27) k_) ?_
        show OGo p.tables e below _ (s₁.setTop (mkF m 28 #[.val (.int p1)] [(.int (3 : Int32)), (.int p1)]))
        by_cases hc28 : p1 = (3 : Int32)
        · refine OGo.st (fun _ k_ => XS.icmpNo X0.here hx rfl (hb hby own_d_method_3_code_28) rfl (XT.ii_ne_f hc28) k_) ?_
          show OGo p.tables e below _ (s₁.setTop (mkF m 31 #[.val (.int p1)] []))
          obtain ⟨T4, X4, ez4, st4⟩ := getS X0 hx hZ hown (host := "") (hw _ (List.mem_of_getElem? (i := 15) rfl)) Via.refl e0 S_CHAR (g := (mkF m 31 #[.val (.int p1)] [])) rfl (hb hby own_d_method_3_code_31)
          refine OGo.st st4 ?_
          show OGo p.tables e below _ (T4.setTop (mkF m 34 #[.val (.int p1)] [(.ref (W 3))]))
          refine OGo.fin X4 (v := some (.ref (W 3))) (fun h => by rw [Bd.returns] at h; cases h) hlk (fun fs hr => X4.areturnOut hx rfl Bd.returns rfl (hb hby own_d_method_3_code_34) hr) ?_ (by decide) (by decide)
          show own_Q_rm1 Z p1 W h0 n0 _ T4.heap _
          rw [ez4]
          exact ⟨by simp [own_idx, hc1, hc10, hc19, hc28], N0, rfl⟩
        · refine OGo.st (fun _ k_ => XS.icmpYes X0.here hx rfl (pc0 := 28) (pc' := 35) rfl (hb hby own_d_method_3_code_28) rfl (XT.ii_ne_t hc28) (by decide) (by decide) k_) ?_
          show OGo p.tables e below _ (s₁.setTop (mkF m 35 #[.val (.int p1)] []))
          refine OGo.st (fun _ k_ => XS.iloadN X0.here hx rfl (hb hby own_d_method_3_code_35) rfl k_) ?_
          show OGo p.tables e below _ (s₁.setTop (mkF m 36 #[.val (.int p1)] [(.int p1)]))
          refine OGo.st (fun _ k_ => XS.iconst X0.here hx rfl (hb hby own_d_method_3_code_36) k_) ?_
          show OGo p.tables e below _ (s₁.setTop (mkF m 37 #[.val (.int p1)] [(.int (4 : Int32)), (.int p1)]))
          by_cases hc37 : p1 = (4 : Int32)
          · refine OGo.st (fun _ k_ => XS.icmpNo X0.here hx rfl (hb hby own_d_method_3_code_37) rfl (XT.ii_ne_f hc37) k_) ?_
            show OGo p.tables e below _ (s₁.setTop (mkF m 40 #[.val (.int p1)] []))
            obtain ⟨T5, X5, ez5, st5⟩ := getS X0 hx hZ hown (host := "") (hw _ (List.mem_of_getElem? (i := 39) rfl)) Via.refl e0 S_INT (g := (mkF m 40 #[.val (.int p1)] [])) rfl (hb hby own_d_method_3_code_40)
            refine OGo.st st5 ?_
            show OGo p.tables e below _ (T5.setTop (mkF m 43 #[.val (.int p1)] [(.ref (W 4))]))
            refine OGo.fin X5 (v := some (.ref (W 4))) (fun h => by rw [Bd.returns] at h; cases h) hlk (fun fs hr => X5.areturnOut hx rfl Bd.returns rfl (hb hby own_d_method_3_code_43) hr) ?_ (by decide) (by decide)
            show own_Q_rm1 Z p1 W h0 n0 _ T5.heap _
            rw [ez5]
            exact ⟨by simp [own_idx, hc1, hc10, hc19, hc28, hc37], N0, rfl⟩
          · refine OGo.st (fun _ k_ => XS.icmpYes X0.here hx rfl (pc0 := 37) (pc' := 44) rfl (hb hby own_d_method_3_code_37) rfl (XT.ii_ne_t hc37) (by decide) (by decide) k_) ?_
            show OGo p.tables e below _ (s₁.setTop (mkF m 44 #[.val (.int p1)] []))
            refine OGo.st (fun _ k_ => XS.iloadN X0.here hx rfl (hb hby own_d_method_3_code_44) rfl k_) ?_
            show OGo p.tables e below _ (s₁.setTop (mkF m 45 #[.val (.int p1)] [(.int p1)]))
            refine OGo.st (fun _ k_ => XS.iconst X0.here hx rfl (hb hby own_d_method_3_code_45) k_) ?_
            show OGo p.tables e below _ (s₁.setTop (mkF m 46 #[.val (.int p1)] [(.int (5 : Int32)), (.int p1)]))
            by_cases hc46 : p1 = (5 : Int32)
            · refine OGo.st (fun _ k_ => XS.icmpNo X0.here hx rfl (hb hby own_d_method_3_code_46) rfl (XT.ii_ne_f hc46) k_) ?_
              show OGo p.tables e below _ (s₁.setTop (mkF m 49 #[.val (.int p1)] []))
              obtain ⟨T6, X6, ez6, st6⟩ := getS X0 hx hZ hown (host := "") (hw _ (List.mem_of_getElem? (i := 17) rfl)) Via.refl e0 S_LONG (g := (mkF m 49 #[.val (.int p1)] [])) rfl (hb hby own_d_method_3_code_49)
              refine OGo.st st6 ?_
              show OGo p.tables e below _ (T6.setTop (mkF m 52 #[.val (.int p1)] [(.ref (W 5))]))
              refine OGo.fin X6 (v := some (.ref (W 5))) (fun h => by rw [Bd.returns] at h; cases h) hlk (fun fs hr => X6.areturnOut hx rfl Bd.returns rfl (hb hby own_d_method_3_code_52) hr) ?_ (by decide) (by decide)
              show own_Q_rm1 Z p1 W h0 n0 _ T6.heap _
              rw [ez6]
              exact ⟨by simp [own_idx, hc1, hc10, hc19, hc28, hc37, hc46], N0, rfl⟩
            · refine OGo.st (fun _ k_ => XS.icmpYes X0.here hx rfl (pc0 := 46) (pc' := 53) rfl (hb hby own_d_method_3_code_46) rfl (XT.ii_ne_t hc46) (by decide) (by decide) k_) ?_
              show OGo p.tables e below _ (s₁.setTop (mkF m 53 #[.val (.int p1)] []))
              refine OGo.st (fun _ k_ => XS.iloadN X0.here hx rfl (hb hby own_d_method_3_code_53) rfl k_) ?_
              show OGo p.tables e below _ (s₁.setTop (mkF m 54 #[.val (.int p1)] [(.int p1)]))
              refine OGo.st (fun _ k_ => XS.bipush X0.here hx rfl (hb hby own_d_method_3_code_54) k_) ?_
              show OGo p.tables e below _ (s₁.setTop (mkF m 56 #[.val (.int p1)] [(.int (6 : Int32)), (.int p1)]))
              by_cases hc56 : p1 = (6 : Int32)
              · refine OGo.st (fun _ k_ => XS.icmpNo X0.here hx rfl (hb hby own_d_method_3_code_56) rfl (XT.ii_ne_f hc56) k_) ?_
                show OGo p.tables e below _ (s₁.setTop (mkF m 59 #[.val (.int p1)] []))
                obtain ⟨T7, X7, ez7, st7⟩ := getS X0 hx hZ hown (host := "") (hw _ (List.mem_of_getElem? (i := 21) rfl)) Via.refl e0 S_FLOAT (g := (mkF m 59 #[.val (.int p1)] [])) rfl (hb hby own_d_method_3_code_59)
                refine OGo.st st7 ?_
                show OGo p.tables e below _ (T7.setTop (mkF m 62 #[.val (.int p1)] [(.ref (W 6))]))
                refine OGo.fin X7 (v := some (.ref (W 6))) (fun h => by rw [Bd.returns] at h; cases h) hlk (fun fs hr => X7.areturnOut hx rfl Bd.returns rfl (hb hby own_d_method_3_code_62) hr) ?_ (by decide) (by decide)
                show own_Q_rm1 Z p1 W h0 n0 _ T7.heap _
                rw [ez7]
                exact ⟨by simp [own_idx, hc1, hc10, hc19, hc28, hc37, hc46, hc56], N0, rfl⟩
              · refine OGo.st (fun _ k_ => XS.icmpYes X0.here hx rfl (pc0 := 56) (pc' := 63) rfl (hb hby own_d_method_3_code_56) rfl (XT.ii_ne_t hc56) (by decide) (by decide) k_) ?_
                show OGo p.tables e below _ (s₁.setTop (mkF m 63 #[.val (.int p1)] []))
                refine OGo.st (fun _ k_ => XS.iloadN X0.here hx rfl (hb hby own_d_method_3_code_63) rfl k_) ?_
                show OGo p.tables e below _ (s₁.setTop (mkF m 64 #[.val (.int p1)] [(.int p1)]))
                refine OGo.st (fun _ k_ => XS.bipush X0.here hx rfl (hb hby own_d_method_3_code_64) k_) ?_
                show OGo p.tables e below _ (s₁.setTop (mkF m 66 #[.val (.int p1)] [(.int (7 : Int32)), (.int p1)]))
                by_cases hc66 : p1 = (7 : Int32)
                · refine OGo.st (fun _ k_ => XS.icmpNo X0.here hx rfl (hb hby own_d_method_3_code_66) rfl (XT.ii_ne_f hc66) k_) ?_
                  show OGo p.tables e below _ (s₁.setTop (mkF m 69 #[.val (.int p1)] []))
                  obtain ⟨T8, X8, ez8, st8⟩ := getS X0 hx hZ hown (host := "") (hw _ (List.mem_of_getElem? (i := 25) rfl)) Via.refl e0 S_DOUBLE (g := (mkF m 69 #[.val (.int p1)] [])) rfl (hb hby own_d_method_3_code_69)
                  refine OGo.st st8 ?_
                  show OGo p.tables e below _ (T8.setTop (mkF m 72 #[.val (.int p1)] [(.ref (W 7))]))
                  refine OGo.fin X8 (v := some (.ref (W 7))) (fun h => by rw [Bd.returns] at h; cases h) hlk (fun fs hr => X8.areturnOut hx rfl Bd.returns rfl (hb hby own_d_method_3_code_72) hr) ?_ (by decide) (by decide)
                  show own_Q_rm1 Z p1 W h0 n0 _ T8.heap _
                  rw [ez8]
                  exact ⟨by simp [own_idx, hc1, hc10, hc19, hc28, hc37, hc46, hc56, hc66], N0, rfl⟩
                · refine OGo.st (fun _ k_ => XS.icmpYes X0.here hx rfl (pc0 := 66) (pc' := 73) rfl (hb hby own_d_method_3_code_66) rfl (XT.ii_ne_t hc66) (by decide) (by decide) k_) ?_
                  show OGo p.tables e below _ (s₁.setTop (mkF m 73 #[.val (.int p1)] []))
                  refine OGo.st (fun _ k_ => XS.iloadN X0.here hx rfl (hb hby own_d_method_3_code_73) rfl k_) ?_
                  show OGo p.tables e below _ (s₁.setTop (mkF m 74 #[.val (.int p1)] [(.int p1)]))
                  refine OGo.st (fun _ k_ => XS.bipush X0.here hx rfl (hb hby own_d_method_3_code_74) k_) ?_
                  show OGo p.tables e below _ (s₁.setTop (mkF m 76 #[.val (.int p1)] [(.int (8 : Int32)), (.int p1)]))
                  by_cases hc76 : p1 = (8 : Int32)
                  · refine OGo.st (fun _ k_ => XS.icmpNo X0.here hx rfl (hb hby own_d_method_3_code_76) rfl (XT.ii_ne_f hc76) k_) ?_
                    show OGo p.tables e below _ (s₁.setTop (mkF m 79 #[.val (.int p1)] []))
                    obtain ⟨T9, X9, ez9, st9⟩ := getS X0 hx hZ hown (host := "") (hw _ (List.mem_of_getElem? (i := 33) rfl)) Via.refl e0 S_STRING16 (g := (mkF m 79 #[.val (.int p1)] [])) rfl (hb hby own_d_method_3_code_79)
                    refine OGo.st st9 ?_
                    show OGo p.tables e below _ (T9.setTop (mkF m 82 #[.val (.int p1)] [(.ref (W 8))]))
                    refine OGo.fin X9 (v := some (.ref (W 8))) (fun h => by rw [Bd.returns] at h; cases h) hlk (fun fs hr => X9.areturnOut hx rfl Bd.returns rfl (hb hby own_d_method_3_code_82) hr) ?_ (by decide) (by decide)
                    show own_Q_rm1 Z p1 W h0 n0 _ T9.heap _
                    rw [ez9]
                    exact ⟨by simp [own_idx, hc1, hc10, hc19, hc28, hc37, hc46, hc56, hc66, hc76], N0, rfl⟩
                  · refine OGo.st (fun _ k_ => XS.icmpYes X0.here hx rfl (pc0 := 76) (pc' := 83) rfl (hb hby own_d_method_3_code_76) rfl (XT.ii_ne_t hc76) (by decide) (by decide) k_) ?_
                    show OGo p.tables e below _ (s₁.setTop (mkF m 83 #[.val (.int p1)] []))
                    refine OGo.st (fun _ k_ => XS.iloadN X0.here hx rfl (hb hby own_d_method_3_code_83) rfl k_) ?_
                    show OGo p.tables e below _ (s₁.setTop (mkF m 84 #[.val (.int p1)] [(.int p1)]))
                    refine OGo.st (fun _ k_ => XS.bipush X0.here hx rfl (hb hby own_d_method_3_code_84) k_) ?_
                    show OGo p.tables e below _ (s₁.setTop (mkF m 86 #[.val (.int p1)] [(.int (9 : Int32)), (.int p1)]))
                    by_cases hc86 : p1 = (9 : Int32)
                    · refine OGo.st (fun _ k_ => XS.icmpNo X0.here hx rfl (hb hby own_d_method_3_code_86) rfl (XT.ii_ne_f hc86) k_) ?_
                      show OGo p.tables e below _ (s₁.setTop (mkF m 89 #[.val (.int p1)] []))
                      obtain ⟨T10, X10, ez10, st10⟩ := getS X0 hx hZ hown (host := "") (hw _ (List.mem_of_getElem? (i := 41) rfl)) Via.refl e0 S_UTF8 (g := (mkF m 89 #[.val (.int p1)] [])) rfl (hb hby own_d_method_3_code_89)
                      refine OGo.st st10 ?_
                      show OGo p.tables e below _ (T10.setTop (mkF m 92 #[.val (.int p1)] [(.ref (W 9))]))
                      refine OGo.fin X10 (v := some (.ref (W 9))) (fun h => by rw [Bd.returns] at h; cases h) hlk (fun fs hr => X10.areturnOut hx rfl Bd.returns rfl (hb hby own_d_method_3_code_92) hr) ?_ (by decide) (by decide)
                      show own_Q_rm1 Z p1 W h0 n0 _ T10.heap _
                      rw [ez10]
                      exact ⟨by simp [own_idx, hc1, hc10, hc19, hc28, hc37, hc46, hc56, hc66, hc76, hc86], N0, rfl⟩
                    · refine OGo.st (fun _ k_ => XS.icmpYes X0.here hx rfl (pc0 := 86) (pc' := 93) rfl (hb hby own_d_method_3_code_86) rfl (XT.ii_ne_t hc86) (by decide) (by decide) k_) ?_
                      show OGo p.tables e below _ (s₁.setTop (mkF m 93 #[.val (.int p1)] []))
                      refine OGo.st (fun _ k_ => XS.iloadN X0.here hx rfl (hb hby own_d_method_3_code_93) rfl k_) ?_
                      show OGo p.tables e below _ (s₁.setTop (mkF m 94 #[.val (.int p1)] [(.int p1)]))
                      refine OGo.st (fun _ k_ => XS.bipush X0.here hx rfl (hb hby own_d_method_3_code_94) k_) ?_
                      show OGo p.tables e below _ (s₁.setTop (mkF m 96 #[.val (.int p1)] [(.int (10 : Int32)), (.int p1)]))
                      by_cases hc96 : p1 = (10 : Int32)
                      · refine OGo.st (fun _ k_ => XS.icmpNo X0.here hx rfl (hb hby own_d_method_3_code_96) rfl (XT.ii_ne_f hc96) k_) ?_
                        show OGo p.tables e below _ (s₁.setTop (mkF m 99 #[.val (.int p1)] []))
                        obtain ⟨T11, X11, ez11, st11⟩ := getS X0 hx hZ hown (host := "") (hw _ (List.mem_of_getElem? (i := 31) rfl)) Via.refl e0 S_BINDER (g := (mkF m 99 #[.val (.int p1)] [])) rfl (hb hby own_d_method_3_code_99)
                        refine OGo.st st11 ?_
                        show OGo p.tables e below _ (T11.setTop (mkF m 102 #[.val (.int p1)] [(.ref (W 10))]))
                        refine OGo.fin X11 (v := some (.ref (W 10))) (fun h => by rw [Bd.returns] at h; cases h) hlk (fun fs hr => X11.areturnOut hx rfl Bd.returns rfl (hb hby own_d_method_3_code_102) hr) ?_ (by decide) (by decide)
                        show own_Q_rm1 Z p1 W h0 n0 _ T11.heap _
                        rw [ez11]
                        exact ⟨by simp [own_idx, hc1, hc10, hc19, hc28, hc37, hc46, hc56, hc66, hc76, hc86, hc96], N0, rfl⟩
                      · refine OGo.st (fun _ k_ => XS.icmpYes X0.here hx rfl (pc0 := 96) (pc' := 103) rfl (hb hby own_d_method_3_code_96) rfl (XT.ii_ne_t hc96) (by decide) (by decide) k_) ?_
                        show OGo p.tables e below _ (s₁.setTop (mkF m 103 #[.val (.int p1)] []))
                        refine OGo.st (fun _ k_ => XS.iloadN X0.here hx rfl (hb hby own_d_method_3_code_103) rfl k_) ?_
                        show OGo p.tables e below _ (s₁.setTop (mkF m 104 #[.val (.int p1)] [(.int p1)]))
                        refine OGo.st (fun _ k_ => XS.bipush X0.here hx rfl (hb hby own_d_method_3_code_104) k_) ?_
                        show OGo p.tables e below _ (s₁.setTop (mkF m 106 #[.val (.int p1)] [(.int (11 : Int32)), (.int p1)]))
                        by_cases hc106 : p1 = (11 : Int32)
                        · refine OGo.st (fun _ k_ => XS.icmpNo X0.here hx rfl (hb hby own_d_method_3_code_106) rfl (XT.ii_ne_f hc106) k_) ?_
                          show OGo p.tables e below _ (s₁.setTop (mkF m 109 #[.val (.int p1)] []))
                          obtain ⟨T12, X12, ez12, st12⟩ := getS X0 hx hZ hown (host := "") (hw _ (List.mem_of_getElem? (i := 29) rfl)) Via.refl e0 S_NULLABLE_BINDER (g := (mkF m 109 #[.val (.int p1)] [])) rfl (hb hby own_d_method_3_code_109)
                          refine OGo.st st12 ?_
                          show OGo p.tables e below _ (T12.setTop (mkF m 112 #[.val (.int p1)] [(.ref (W 11))]))
                          refine OGo.fin X12 (v := some (.ref (W 11))) (fun h => by rw [Bd.returns] at h; cases h) hlk (fun fs hr => X12.areturnOut hx rfl Bd.returns rfl (hb hby own_d_method_3_code_112) hr) ?_ (by decide) (by decide)
                          show own_Q_rm1 Z p1 W h0 n0 _ T12.heap _
                          rw [ez12]
                          exact ⟨by simp [own_idx, hc1, hc10, hc19, hc28, hc37, hc46, hc56, hc66, hc76, hc86, hc96, hc106], N0, rfl⟩
                        · refine OGo.st (fun _ k_ => XS.icmpYes X0.here hx rfl (pc0 := 106) (pc' := 113) rfl (hb hby own_d_method_3_code_106) rfl (XT.ii_ne_t hc106) (by decide) (by decide) k_) ?_
                          show OGo p.tables e below _ (s₁.setTop (mkF m 113 #[.val (.int p1)] []))
                          refine OGo.st (fun _ k_ => XS.iloadN X0.here hx rfl (hb hby own_d_method_3_code_113) rfl k_) ?_
                          show OGo p.tables e below _ (s₁.setTop (mkF m 114 #[.val (.int p1)] [(.int p1)]))
                          refine OGo.st (fun _ k_ => XS.bipush X0.here hx rfl (hb hby own_d_method_3_code_114) k_) ?_
                          show OGo p.tables e below _ (s₁.setTop (mkF m 116 #[.val (.int p1)] [(.int (12 : Int32)), (.int p1)]))
                          by_cases hc116 : p1 = (12 : Int32)
                          · refine OGo.st (fun _ k_ => XS.icmpNo X0.here hx rfl (hb hby own_d_method_3_code_116) rfl (XT.ii_ne_f hc116) k_) ?_
                            show OGo p.tables e below _ (s₁.setTop (mkF m 119 #[.val (.int p1)] []))
                            obtain ⟨T13, X13, ez13, st13⟩ := getS X0 hx hZ hown (host := "") (hw _ (List.mem_of_getElem? (i := 37) rfl)) Via.refl e0 S_FILE_DESCRIPTOR (g := (mkF m 119 #[.val (.int p1)] [])) rfl (hb hby own_d_method_3_code_119)
                            refine OGo.st st13 ?_
                            show OGo p.tables e below _ (T13.setTop (mkF m 122 #[.val (.int p1)] [(.ref (W 12))]))
                            refine OGo.fin X13 (v := some (.ref (W 12))) (fun h => by rw [Bd.returns] at h; cases h) hlk (fun fs hr => X13.areturnOut hx rfl Bd.returns rfl (hb hby own_d_method_3_code_122) hr) ?_ (by decide) (by decide)
                            show own_Q_rm1 Z p1 W h0 n0 _ T13.heap _
                            rw [ez13]
                            exact ⟨by simp [own_idx, hc1, hc10, hc19, hc28, hc37, hc46, hc56, hc66, hc76, hc86, hc96, hc106, hc116], N0, rfl⟩
                          · refine OGo.st (fun _ k_ => XS.icmpYes X0.here hx rfl (pc0 := 116) (pc' := 123) rfl (hb hby own_d_method_3_code_116) rfl (XT.ii_ne_t hc116) (by decide) (by decide) k_) ?_
                            show OGo p.tables e below _ (s₁.setTop (mkF m 123 #[.val (.int p1)] []))
                            refine OGo.st (fun _ k_ => XS.iloadN X0.here hx rfl (hb hby own_d_method_3_code_123) rfl k_) ?_
                            show OGo p.tables e below _ (s₁.setTop (mkF m 124 #[.val (.int p1)] [(.int p1)]))
                            refine OGo.st (fun _ k_ => XS.bipush X0.here hx rfl (hb hby own_d_method_3_code_124) k_) ?_
                            show OGo p.tables e below _ (s₁.setTop (mkF m 126 #[.val (.int p1)] [(.int (13 : Int32)), (.int p1)]))
                            by_cases hc126 : p1 = (13 : Int32)
                            · refine OGo.st (fun _ k_ => XS.icmpNo X0.here hx rfl (hb hby own_d_method_3_code_126) rfl (XT.ii_ne_f hc126) k_) ?_
                              show OGo p.tables e below _ (s₁.setTop (mkF m 129 #[.val (.int p1)] []))
                              obtain ⟨T14, X14, ez14, st14⟩ := getS X0 hx hZ hown (host := "") (hw _ (List.mem_of_getElem? (i := 19) rfl)) Via.refl e0 S_PARCEL_FILE_DESCRIPTOR (g := (mkF m 129 #[.val (.int p1)] [])) rfl (hb hby own_d_method_3_code_129)
                              refine OGo.st st14 ?_
                              show OGo p.tables e below _ (T14.setTop (mkF m 132 #[.val (.int p1)] [(.ref (W 13))]))
                              refine OGo.fin X14 (v := some (.ref (W 13))) (fun h => by rw [Bd.returns] at h; cases h) hlk (fun fs hr => X14.areturnOut hx rfl Bd.returns rfl (hb hby own_d_method_3_code_132) hr) ?_ (by decide) (by decide)
                              show own_Q_rm1 Z p1 W h0 n0 _ T14.heap _
                              rw [ez14]
                              exact ⟨by simp [own_idx, hc1, hc10, hc19, hc28, hc37, hc46, hc56, hc66, hc76, hc86, hc96, hc106, hc116, hc126], N0, rfl⟩
                            · refine OGo.st (fun _ k_ => XS.icmpYes X0.here hx rfl (pc0 := 126) (pc' := 133) rfl (hb hby own_d_method_3_code_126) rfl (XT.ii_ne_t hc126) (by decide) (by decide) k_) ?_
                              show OGo p.tables e below _ (s₁.setTop (mkF m 133 #[.val (.int p1)] []))
                              obtain ⟨T15, X15, ez15, st15⟩ := getS X0 hx hZ hown (host := "") (hw _ (List.mem_of_getElem? (i := 23) rfl)) Via.refl e0 S_PARCELABLE_HOLDER (g := (mkF m 133 #[.val (.int p1)] [])) rfl (hb hby own_d_method_3_code_133)
                              refine OGo.st st15 ?_
                              show OGo p.tables e below _ (T15.setTop (mkF m 136 #[.val (.int p1)] [(.ref (W 14))]))
                              refine OGo.fin X15 (v := some (.ref (W 14))) (fun h => by rw [Bd.returns] at h; cases h) hlk (fun fs hr => X15.areturnOut hx rfl Bd.returns rfl (hb hby own_d_method_3_code_136) hr) ?_ (by decide) (by decide)
                              show own_Q_rm1 Z p1 W h0 n0 _ T15.heap _
                              rw [ez15]
                              exact ⟨by simp [own_idx, hc1, hc10, hc19, hc28, hc37, hc46, hc56, hc66, hc76, hc86, hc96, hc106, hc116, hc126], N0, rfl⟩
theorem own_d_prog_12_method_8_code_0 : decode prog_12_method_8_code 0 = .ok (.aload_n 0, 1) := by decide +kernel
theorem own_d_prog_12_method_8_code_1 : decode prog_12_method_8_code 1 = .ok (.getstatic 7, 3) := by decide +kernel
theorem own_d_prog_12_method_8_code_4 : decode prog_12_method_8_code 4 = .ok (.if_acmp .ne 9, 3) := by decide +kernel
theorem own_d_prog_12_method_8_code_7 : decode prog_12_method_8_code 7 = .ok (.getstatic 10, 3) := by decide +kernel
theorem own_d_prog_12_method_8_code_10 : decode prog_12_method_8_code 10 = .ok (.goto 4, 3) := by decide +kernel
theorem own_d_prog_12_method_8_code_14 : decode prog_12_method_8_code 14 = .ok (.areturn, 1) := by decide +kernel
theorem own_d_prog_12_method_8_code_13 : decode prog_12_method_8_code 13 = .ok (.aload_n 0, 1) := by decide +kernel
theorem own_pn1 : plainName "com/example/weaverbird/weaverbird/cppgen/CppType$Form" = true := by first | (simp [plainName, overriddenIn]; done) | decide +kernel
theorem own_ef_rm2 (m : MethodId) (x0 : Addr) : entryFrame m #[(.ref x0)] 1 = mkF m 0 #[.val (.ref x0)] [] := by first | (simp [entryFrame, mkF, argsToLocals, Value.category]; done) | rfl
def own_Q_rm2 (Z : State) (a1 : Addr) (W : Nat → Addr) (h0 : Heap) (n0 : Nat) (v : Option Value) (h : Heap) (L : List Loc) : Prop := v = some (.ref (own_ae W a1)) ∧ Fr n0 L ∧ h = h0
set_option maxRecDepth 65536 in
set_option maxHeartbeats 40000000 in
theorem rm2 (l : Launch) (Z : State) (a0 : Array Value) (hw : ∀ d ∈ tables_1, d.before a0 Z = true) (ws : List Jvm.Cond) (a1 : Addr) (W : Nat → Addr) (h0 : Heap) (n0 : Nat) (Z0 : n0 ≤ h0.size) (S_BYTE : Sta Z h0 "com/example/weaverbird/weaverbird/cppgen/CppType$Form" "BYTE" "Lcom/example/weaverbird/weaverbird/cppgen/CppType$Form;" (.ref (W 1))) (S_UNSIGNED_BYTE : Sta Z h0 "com/example/weaverbird/weaverbird/cppgen/CppType$Form" "UNSIGNED_BYTE" "Lcom/example/weaverbird/weaverbird/cppgen/CppType$Form;" (.ref (W 2))) :
    OMet l Z (⟨"com/example/weaverbird/weaverbird/cppgen/CppType$Form", "asElement", "()Lcom/example/weaverbird/weaverbird/cppgen/CppType$Form;"⟩ : MethodName) prog_12_method_8_code 1 (some (.object "com/example/weaverbird/weaverbird/cppgen/CppType$Form")) ws ({ frames := 0, cells := 0, slots := 0, locals := 0 } : Room) #[(.ref a1)] h0 (own_Q_rm2 Z a1 W h0 n0) := by
  refine MetFree.of_bodySF (plainFor_of_name own_pn1) hisR ?_
  intro p e s m args below meth c s₁ Bd hml0 hP hK
  obtain ⟨rfl, hZ, hh⟩ := hP
  have hx := Bd.exec
  have hby := Bd.bytes
  have hml : c.maxLocals = 1 := hml0
  have hown : s.vm.findClass "com/example/weaverbird/weaverbird/cppgen/CppType$Form" = some m.cls := findClass_of_methodNamed Bd.named
  have hnm := (name_of_methodNamed Bd.named Bd.method).1
  have hlk : meth.locks = false := Bd.notSynchronized
  have X0 : Stand p l e ({ frames := 0, cells := 0, slots := 0, locals := 0 } : Room) s m #[(.ref a1)] below meth c s₁ [] 0 0 := Stand.of_body Bd
  have e0 : s₁.heap = h0 := by rw [← hh, Bd.state]; rfl
  have N0 := Fr.nil n0
  refine OGo.enter (P := OPost s (own_Q_rm2 Z a1 W h0 n0) 0 0) (own_ef_rm2 m a1) ?_
  show OGo p.tables e below _ (s₁.setTop (mkF m 0 #[.val (.ref a1)] []))
  refine OGo.st (fun _ k_ => XS.aloadN X0.here hx rfl (hb hby own_d_prog_12_method_8_code_0) rfl rfl k_) ?_
  show OGo p.tables e below _ (s₁.setTop (mkF m 1 #[.val (.ref a1)] [(.ref a1)]))
  obtain ⟨T1, X1, ez1, st1⟩ := getS X0 hx hZ hown (host := "") (hw _ (List.mem_of_getElem? (i := 13) rfl)) Via.refl e0 S_BYTE (g := (mkF m 1 #[.val (.ref a1)] [(.ref a1)])) rfl (hb hby own_d_prog_12_method_8_code_1)
  refine OGo.st st1 ?_
  show OGo p.tables e below _ (T1.setTop (mkF m 4 #[.val (.ref a1)] [(.ref (W 1)), (.ref a1)]))
  by_cases hc4 : (Value.ref a1) = (.ref (W 1))
  · refine OGo.st (fun _ k_ => XT.acmpNo X1.here hx rfl (hb hby own_d_prog_12_method_8_code_4) rfl rfl rfl (XT.aa_ne_f hc4) k_) ?_
    show OGo p.tables e below _ (T1.setTop (mkF m 7 #[.val (.ref a1)] []))
    obtain ⟨T2, X2, ez2, st2⟩ := getS X1 hx hZ hown (host := "") (hw _ (List.mem_of_getElem? (i := 36) rfl)) Via.refl ez1 S_UNSIGNED_BYTE (g := (mkF m 7 #[.val (.ref a1)] [])) rfl (hb hby own_d_prog_12_method_8_code_7)
    refine OGo.st st2 ?_
    show OGo p.tables e below _ (T2.setTop (mkF m 10 #[.val (.ref a1)] [(.ref (W 2))]))
    refine OGo.st (fun _ k_ => XS.goto X2.here hx rfl (pc0 := 10) (pc' := 14) rfl (hb hby own_d_prog_12_method_8_code_10) (by decide) (by decide) k_) ?_
    show OGo p.tables e below _ (T2.setTop (mkF m 14 #[.val (.ref a1)] [(.ref (W 2))]))
    refine OGo.fin X2 (v := some (.ref (W 2))) (fun h => by rw [Bd.returns] at h; cases h) hlk (fun fs hr => X2.areturnOut hx rfl Bd.returns rfl (hb hby own_d_prog_12_method_8_code_14) hr) ?_ (by decide) (by decide)
    show own_Q_rm2 Z a1 W h0 n0 _ T2.heap _
    rw [ez2]
    exact ⟨by unfold own_ae; rw [if_pos (Value.ref.inj hc4)], N0, rfl⟩
  · refine OGo.st (fun _ k_ => XT.acmpYes X1.here hx rfl (pc0 := 4) (pc' := 13) rfl (hb hby own_d_prog_12_method_8_code_4) rfl rfl rfl (XT.aa_ne_t hc4) (by decide) (by decide) k_) ?_
    show OGo p.tables e below _ (T1.setTop (mkF m 13 #[.val (.ref a1)] []))
    refine OGo.st (fun _ k_ => XS.aloadN X1.here hx rfl (hb hby own_d_prog_12_method_8_code_13) rfl rfl k_) ?_
    show OGo p.tables e below _ (T1.setTop (mkF m 14 #[.val (.ref a1)] [(.ref a1)]))
    refine OGo.fin X1 (v := some (.ref a1)) (fun h => by rw [Bd.returns] at h; cases h) hlk (fun fs hr => X1.areturnOut hx rfl Bd.returns rfl (hb hby own_d_prog_12_method_8_code_14) hr) ?_ (by decide) (by decide)
    show own_Q_rm2 Z a1 W h0 n0 _ T1.heap _
    rw [ez1]
    exact ⟨by unfold own_ae; rw [if_neg (fun q => hc4 (congrArg Value.ref q))], N0, rfl⟩
theorem own_pd0 : parseMethodDescriptor "(I)Lcom/example/weaverbird/weaverbird/cppgen/CppType$Form;" = some ⟨[.int], some (.object "com/example/weaverbird/weaverbird/cppgen/CppType$Form")⟩ := by decide +kernel
theorem own_pd1 : parseMethodDescriptor "()Lcom/example/weaverbird/weaverbird/cppgen/CppType$Form;" = some ⟨[], some (.object "com/example/weaverbird/weaverbird/cppgen/CppType$Form")⟩ := by decide +kernel
theorem own_ef_rm0 (m : MethodId) (x0 : Int32) : entryFrame m #[(.int x0)] maxLocals = mkF m 0 #[.val (.int x0), .unset, .unset, .unset, .unset] [] := by first | (simp [entryFrame, mkF, argsToLocals, Value.category, maxLocals]; done) | rfl
def own_Q_rm0 (Z : State) (p1 : Int32) (W : Nat → Addr) (h0 : Heap) (n0 : Nat) (v : Option Value) (h : Heap) (L : List Loc) : Prop := v = some (.int 1) ∧ Fr n0 L
set_option maxRecDepth 65536 in
set_option maxHeartbeats 40000000 in
theorem rm0 (l : Launch) (Z : State) (a0 : Array Value) (hw : ∀ d ∈ tables_1, d.before a0 Z = true) (ws : List Jvm.Cond) (p1 : Int32) (W : Nat → Addr) (h0 : Heap) (n0 : Nat) (Z0 : n0 ≤ h0.size) (S_BOOLEAN : Sta Z h0 "com/example/weaverbird/weaverbird/cppgen/CppType$Form" "BOOLEAN" "Lcom/example/weaverbird/weaverbird/cppgen/CppType$Form;" (.ref (W 0))) (S_BYTE : Sta Z h0 "com/example/weaverbird/weaverbird/cppgen/CppType$Form" "BYTE" "Lcom/example/weaverbird/weaverbird/cppgen/CppType$Form;" (.ref (W 1))) (S_UNSIGNED_BYTE : Sta Z h0 "com/example/weaverbird/weaverbird/cppgen/CppType$Form" "UNSIGNED_BYTE" "Lcom/example/weaverbird/weaverbird/cppgen/CppType$Form;" (.ref (W 2))) (S_CHAR : Sta Z h0 "com/example/weaverbird/weaverbird/cppgen/CppType$Form" "CHAR" "Lcom/example/weaverbird/weaverbird/cppgen/CppType$Form;" (.ref (W 3))) (S_INT : Sta Z h0 "com/example/weaverbird/weaverbird/cppgen/CppType$Form" "INT" "Lcom/example/weaverbird/weaverbird/cppgen/CppType$Form;" (.ref (W 4))) (S_LONG : Sta Z h0 "com/example/weaverbird/weaverbird/cppgen/CppType$Form" "LONG" "Lcom/example/weaverbird/weaverbird/cppgen/CppType$Form;" (.ref (W 5))) (S_FLOAT : Sta Z h0 "com/example/weaverbird/weaverbird/cppgen/CppType$Form" "FLOAT" "Lcom/example/weaverbird/weaverbird/cppgen/CppType$Form;" (.ref (W 6))) (S_DOUBLE : Sta Z h0 "com/example/weaverbird/weaverbird/cppgen/CppType$Form" "DOUBLE" "Lcom/example/weaverbird/weaverbird/cppgen/CppType$Form;" (.ref (W 7))) (S_STRING16 : Sta Z h0 "com/example/weaverbird/weaverbird/cppgen/CppType$Form" "STRING16" "Lcom/example/weaverbird/weaverbird/cppgen/CppType$Form;" (.ref (W 8))) (S_UTF8 : Sta Z h0 "com/example/weaverbird/weaverbird/cppgen/CppType$Form" "UTF8" "Lcom/example/weaverbird/weaverbird/cppgen/CppType$Form;" (.ref (W 9))) (S_BINDER : Sta Z h0 "com/example/weaverbird/weaverbird/cppgen/CppType$Form" "BINDER" "Lcom/example/weaverbird/weaverbird/cppgen/CppType$Form;" (.ref (W 10))) (S_NULLABLE_BINDER : Sta Z h0 "com/example/weaverbird/weaverbird/cppgen/CppType$Form" "NULLABLE_BINDER" "Lcom/example/weaverbird/weaverbird/cppgen/CppType$Form;" (.ref (W 11))) (S_FILE_DESCRIPTOR : Sta Z h0 "com/example/weaverbird/weaverbird/cppgen/CppType$Form" "FILE_DESCRIPTOR" "Lcom/example/weaverbird/weaverbird/cppgen/CppType$Form;" (.ref (W 12))) (S_PARCEL_FILE_DESCRIPTOR : Sta Z h0 "com/example/weaverbird/weaverbird/cppgen/CppType$Form" "PARCEL_FILE_DESCRIPTOR" "Lcom/example/weaverbird/weaverbird/cppgen/CppType$Form;" (.ref (W 13))) (S_PARCELABLE_HOLDER : Sta Z h0 "com/example/weaverbird/weaverbird/cppgen/CppType$Form" "PARCELABLE_HOLDER" "Lcom/example/weaverbird/weaverbird/cppgen/CppType$Form;" (.ref (W 14))) (hE : ∀ k, k < 15 → Exa Z h0 (W k) "com/example/weaverbird/weaverbird/cppgen/CppType$Form") (hne : ∀ k, k < 15 → k ≠ 1 → W k ≠ W 1) :
    OMet l Z x code maxLocals ret ws room_1 #[(.int p1)] h0 (own_Q_rm0 Z p1 W h0 n0) := by
  refine MetFree.of_bodySF (plainFor_of_name own_pn0) hisR ?_
  intro p e s m args below meth c s₁ Bd hml0 hP hK
  obtain ⟨rfl, hZ, hh⟩ := hP
  have hx := Bd.exec
  have hby := Bd.bytes
  have hml : c.maxLocals = 5 := hml0
  have hown : s.vm.findClass "com/example/weaverbird/weaverbird/cppgen/FormAsElementPinLaw" = some m.cls := findClass_of_methodNamed Bd.named
  have hnm := (name_of_methodNamed Bd.named Bd.method).1
  have hlk : meth.locks = false := Bd.notSynchronized
  have X0 : Stand p l e room_1 s m #[(.int p1)] below meth c s₁ [] 0 0 := Stand.of_body Bd
  have e0 : s₁.heap = h0 := by rw [← hh, Bd.state]; rfl
  have N0 := Fr.nil n0
  refine OGo.enter (P := OPost s (own_Q_rm0 Z p1 W h0 n0) room_1.cells room_1.slots) (own_ef_rm0 m p1) ?_
  show OGo p.tables e below _ (s₁.setTop (mkF m 0 #[.val (.int p1), .unset, .unset, .unset, .unset] []))
  refine OGo.st (fun _ k_ => XS.iloadN X0.here hx rfl (hb hby at_0) rfl k_) ?_
  show OGo p.tables e below _ (s₁.setTop (mkF m 1 #[.val (.int p1), .unset, .unset, .unset, .unset] [(.int p1)]))
  refine OGo.st (fun _ k_ => X0.ldcI hx hown (mvT hZ (hw _ (List.mem_of_getElem? (i := 0) rfl))) rfl (hb hby at_1) k_) ?_
  show OGo p.tables e below _ (s₁.setTop (mkF m 3 #[.val (.int p1), .unset, .unset, .unset, .unset] [(.int (2147483647 : Int32)), (.int p1)]))
  refine OGo.st (fun _ k_ => XS.iand X0.here hx rfl (hb hby at_3) rfl k_) ?_
  show OGo p.tables e below _ (s₁.setTop (mkF m 4 #[.val (.int p1), .unset, .unset, .unset, .unset] [(.int (p1 &&& (2147483647 : Int32)))]))
  refine OGo.st (fun _ k_ => XS.bipush X0.here hx rfl (hb hby at_4) k_) ?_
  show OGo p.tables e below _ (s₁.setTop (mkF m 6 #[.val (.int p1), .unset, .unset, .unset, .unset] [(.int (15 : Int32)), (.int (p1 &&& (2147483647 : Int32)))]))
  refine OGo.st (fun _ k_ => XS.irem X0.here hx rfl (hb hby at_6) rfl (by decide) k_) ?_
  show OGo p.tables e below _ (s₁.setTop (mkF m 7 #[.val (.int p1), .unset, .unset, .unset, .unset] [(.int ((p1 &&& (2147483647 : Int32)) - ((p1 &&& (2147483647 : Int32)) / (15 : Int32)) * (15 : Int32)))]))
  obtain ⟨i1, hi1⟩ : ∃ z : Int32, z = ((p1 &&& (2147483647 : Int32)) - ((p1 &&& (2147483647 : Int32)) / (15 : Int32)) * (15 : Int32)) := ⟨_, rfl⟩
  rw [← hi1]
  show OGo p.tables e below _ (s₁.setTop (mkF m 7 #[.val (.int p1), .unset, .unset, .unset, .unset] [(.int i1)]))
  refine OGo.st (fun _ k_ => XS.istoreN X0.here hx rfl (hb hby at_7) rfl (l' := #[.val (.int p1), .val (.int i1), .unset, .unset, .unset]) rfl k_) ?_
  show OGo p.tables e below _ (s₁.setTop (mkF m 8 #[.val (.int p1), .val (.int i1), .unset, .unset, .unset] []))
  refine OGo.st (fun _ k_ => XS.iloadN X0.here hx rfl (hb hby at_8) rfl k_) ?_
  show OGo p.tables e below _ (s₁.setTop (mkF m 9 #[.val (.int p1), .val (.int i1), .unset, .unset, .unset] [(.int i1)]))
  obtain ⟨_, _, ⟨T1, Lz1, kz1, nz1⟩, -, X1, ⟨Lc1, hQ1, lz1, yz1, zz1⟩, st1⟩ := Jvm.LawKit.callS X0 hx (y := (⟨"com/example/weaverbird/weaverbird/cppgen/FormAsElementPinLaw", "form", "(I)Lcom/example/weaverbird/weaverbird/cppgen/CppType$Form;"⟩ : MethodName)) hown (mvT hZ (hw _ (List.mem_of_getElem? (i := 1) rfl))) (mvT hZ (hw _ (List.mem_of_getElem? (i := 2) rfl))) (mvT hZ (hw _ (List.mem_of_getElem? (i := 3) rfl))) (mvT hZ (hw _ (List.mem_of_getElem? (i := 4) rfl))) (by decide) (backOf (W := 0) (rm1 l Z a0 hw [] i1 W h0 n0 (Nat.le_trans Z0 (Keep.refl h0 []).1) S_BOOLEAN S_BYTE S_UNSIGNED_BYTE S_CHAR S_INT S_LONG S_FLOAT S_DOUBLE S_STRING16 S_UTF8 S_BINDER S_NULLABLE_BINDER S_FILE_DESCRIPTOR S_PARCEL_FILE_DESCRIPTOR S_PARCELABLE_HOLDER) hZ (hw _ (List.mem_of_getElem? (i := 4) rfl)) (hw _ (List.mem_of_getElem? (i := 3) rfl)) (by decide) (by decide)) (g := (mkF m 9 #[.val (.int p1), .val (.int i1), .unset, .unset, .unset] [(.int i1)])) rfl (by rw [hml]; rfl) (argsL := [(.int i1)]) (rest := []) (lenOf own_pd0 rfl) rfl (by show 2 * 0 + _ ≤ _; exact Nat.le_of_eq rfl) (hb hby at_9) (fun _ _ => ⟨rfl, e0, (by decide : 0 + 0 ≤ _), (by decide : 0 + 0 ≤ _)⟩)
  dsimp only [Pt.U, Pt.locs, Pt.cells, Pt.slots] at X1 lz1 yz1 zz1 st1 hQ1
  subst lz1 yz1 zz1
  obtain ⟨rfl, Nq1, ez1⟩ := hQ1
  have N1 := Fr.app N0 Nq1
  refine OGo.st st1 ?_
  show OGo p.tables e below _ (T1.setTop (mkF m 12 #[.val (.int p1), .val (.int i1), .unset, .unset, .unset] [(.ref (W (own_idx i1)))]))
  refine OGo.st (fun _ k_ => XS.astoreN X1.here hx rfl (hb hby at_12) rfl rfl (l' := #[.val (.int p1), .val (.int i1), .val (.ref (W (own_idx i1))), .unset, .unset]) rfl k_) ?_
  have Ea := hE _ (own_idx_lt i1)
  show OGo p.tables e below _ (T1.setTop (mkF m 13 #[.val (.int p1), .val (.int i1), .val (.ref (W (own_idx i1))), .unset, .unset] []))
  refine OGo.st (fun _ k_ => XS.aloadN X1.here hx rfl (hb hby at_13) rfl rfl k_) ?_
  show OGo p.tables e below _ (T1.setTop (mkF m 14 #[.val (.int p1), .val (.int i1), .val (.ref (W (own_idx i1))), .unset, .unset] [(.ref (W (own_idx i1)))]))
  obtain ⟨cq2, kqz2, qz2a, qz2b, qz2c⟩ := isOf hZ ez1 Ea
  obtain ⟨_, _, ⟨T2, Lz2, kz2, nz2⟩, -, X2, ⟨Lc2, hQ2, lz2, yz2, zz2⟩, st2⟩ := X1.virtualBack hx (y := (⟨"com/example/weaverbird/weaverbird/cppgen/CppType$Form", "asElement", "()Lcom/example/weaverbird/weaverbird/cppgen/CppType$Form;"⟩ : MethodName)) (z := (⟨"com/example/weaverbird/weaverbird/cppgen/CppType$Form", "asElement", "()Lcom/example/weaverbird/weaverbird/cppgen/CppType$Form;"⟩ : MethodName)) hown (mvT hZ (hw _ (List.mem_of_getElem? (i := 8) rfl))) (mvT hZ (hw _ (List.mem_of_getElem? (i := 9) rfl))) (notFace_of_selects (args := #[]) (mvT hZ (hw _ (List.mem_of_getElem? (i := 11) rfl)))) (mvT hZ (hw _ (List.mem_of_getElem? (i := 11) rfl))) (mvT hZ (hw _ (List.mem_of_getElem? (i := 10) rfl))) (by decide) (backOf (W := 0) (rm2 l Z a0 hw [] (W (own_idx i1)) W h0 n0 (Nat.le_trans Z0 (Keep.refl h0 []).1) S_BYTE S_UNSIGNED_BYTE) hZ (hw _ (List.mem_of_getElem? (i := 12) rfl)) (hw _ (List.mem_of_getElem? (i := 6) rfl)) (by decide) (by decide)) qz2a qz2c (g := (mkF m 14 #[.val (.int p1), .val (.int i1), .val (.ref (W (own_idx i1))), .unset, .unset] [(.ref (W (own_idx i1)))])) rfl (by rw [hml]; rfl) (Steps.refl _) (argsL := []) (rest := []) (lenOf own_pd1 rfl) rfl (by show 2 * 0 + _ ≤ _; exact Nat.le_of_eq rfl) (hb hby at_14) (fun _ _ => ⟨rfl, ez1, (by decide : 0 + 0 ≤ _), (by decide : 0 + 0 ≤ _)⟩)
  dsimp only [Pt.U, Pt.locs, Pt.cells, Pt.slots] at X2 lz2 yz2 zz2 st2 hQ2
  subst lz2 yz2 zz2
  obtain ⟨rfl, Nq2, ez2⟩ := hQ2
  have N2 := Fr.app N1 Nq2
  refine OGo.tr st2 ?_
  show OGo p.tables e below _ (T2.setTop (mkF m 17 #[.val (.int p1), .val (.int i1), .val (.ref (W (own_idx i1))), .unset, .unset] [(.ref (own_ae W (W (own_idx i1))))]))
  refine OGo.st (fun _ k_ => XS.astoreN X2.here hx rfl (hb hby at_17) rfl rfl (l' := #[.val (.int p1), .val (.int i1), .val (.ref (W (own_idx i1))), .val (.ref (own_ae W (W (own_idx i1)))), .unset]) rfl k_) ?_
  obtain ⟨vj, hvz3, st3⟩ : ∃ vj : Int32, vj = (if i1 = (1 : Int32) then (2 : Int32) else i1) ∧ ∀ t, Steps p.tables e below (T2.setTop (mkF m 28 #[.val (.int p1), .val (.int i1), .val (.ref (W (own_idx i1))), .val (.ref (own_ae W (W (own_idx i1)))), .unset] [(.int vj)])) t → Steps p.tables e below (T2.setTop (mkF m 18 #[.val (.int p1), .val (.int i1), .val (.ref (W (own_idx i1))), .val (.ref (own_ae W (W (own_idx i1)))), .unset] [])) t := by
    refine ⟨_, rfl, fun t k => ?_⟩
    show Steps p.tables e below (T2.setTop (mkF m 18 #[.val (.int p1), .val (.int i1), .val (.ref (W (own_idx i1))), .val (.ref (own_ae W (W (own_idx i1)))), .unset] [])) _
    refine XS.iloadN X2.here hx rfl (hb hby at_18) rfl ?_
    show Steps p.tables e below (T2.setTop (mkF m 19 #[.val (.int p1), .val (.int i1), .val (.ref (W (own_idx i1))), .val (.ref (own_ae W (W (own_idx i1)))), .unset] [(.int i1)])) _
    refine XS.iconst X2.here hx rfl (hb hby at_19) ?_
    show Steps p.tables e below (T2.setTop (mkF m 20 #[.val (.int p1), .val (.int i1), .val (.ref (W (own_idx i1))), .val (.ref (own_ae W (W (own_idx i1)))), .unset] [(.int (1 : Int32)), (.int i1)])) _
    by_cases hs20 : i1 = (1 : Int32)
    · rw [if_pos hs20] at k
      refine XS.icmpNo X2.here hx rfl (hb hby at_20) rfl (XT.ii_ne_f hs20) ?_
      show Steps p.tables e below (T2.setTop (mkF m 23 #[.val (.int p1), .val (.int i1), .val (.ref (W (own_idx i1))), .val (.ref (own_ae W (W (own_idx i1)))), .unset] [])) _
      refine XS.iconst X2.here hx rfl (hb hby at_23) ?_
      show Steps p.tables e below (T2.setTop (mkF m 24 #[.val (.int p1), .val (.int i1), .val (.ref (W (own_idx i1))), .val (.ref (own_ae W (W (own_idx i1)))), .unset] [(.int (2 : Int32))])) _
      refine XS.goto X2.here hx rfl (pc0 := 24) (pc' := 28) rfl (hb hby at_24) (by decide) (by decide) ?_
      exact k
    · rw [if_neg hs20] at k
      refine XS.icmpYes X2.here hx rfl (pc0 := 20) (pc' := 27) rfl (hb hby at_20) rfl (XT.ii_ne_t hs20) (by decide) (by decide) ?_
      show Steps p.tables e below (T2.setTop (mkF m 27 #[.val (.int p1), .val (.int i1), .val (.ref (W (own_idx i1))), .val (.ref (own_ae W (W (own_idx i1)))), .unset] [])) _
      refine XS.iloadN X2.here hx rfl (hb hby at_27) rfl ?_
      exact k
  refine OGo.st st3 ?_
  have Eb : Exa Z h0 (own_ae W (W (own_idx i1))) "com/example/weaverbird/weaverbird/cppgen/CppType$Form" := by rw [own_p1 W hne hvz3]; exact hE _ (own_idx_lt vj)
  show OGo p.tables e below _ (T2.setTop (mkF m 28 #[.val (.int p1), .val (.int i1), .val (.ref (W (own_idx i1))), .val (.ref (own_ae W (W (own_idx i1)))), .unset] [(.int vj)]))
  refine OGo.st (fun _ k_ => XS.istore X2.here hx rfl (hb hby at_28) rfl (l' := #[.val (.int p1), .val (.int i1), .val (.ref (W (own_idx i1))), .val (.ref (own_ae W (W (own_idx i1)))), .val (.int vj)]) rfl k_) ?_
  show OGo p.tables e below _ (T2.setTop (mkF m 30 #[.val (.int p1), .val (.int i1), .val (.ref (W (own_idx i1))), .val (.ref (own_ae W (W (own_idx i1)))), .val (.int vj)] []))
  refine OGo.st (fun _ k_ => XS.aloadN X2.here hx rfl (hb hby at_30) rfl rfl k_) ?_
  show OGo p.tables e below _ (T2.setTop (mkF m 31 #[.val (.int p1), .val (.int i1), .val (.ref (W (own_idx i1))), .val (.ref (own_ae W (W (own_idx i1)))), .val (.int vj)] [(.ref (own_ae W (W (own_idx i1))))]))
  refine OGo.st (fun _ k_ => XS.iload X2.here hx rfl (hb hby at_31) rfl k_) ?_
  show OGo p.tables e below _ (T2.setTop (mkF m 33 #[.val (.int p1), .val (.int i1), .val (.ref (W (own_idx i1))), .val (.ref (own_ae W (W (own_idx i1)))), .val (.int vj)] [(.int vj), (.ref (own_ae W (W (own_idx i1))))]))
  obtain ⟨_, _, ⟨T4, Lz4, kz4, nz4⟩, -, X4, ⟨Lc4, hQ4, lz4, yz4, zz4⟩, st4⟩ := Jvm.LawKit.callS X2 hx (y := (⟨"com/example/weaverbird/weaverbird/cppgen/FormAsElementPinLaw", "form", "(I)Lcom/example/weaverbird/weaverbird/cppgen/CppType$Form;"⟩ : MethodName)) hown (mvT hZ (hw _ (List.mem_of_getElem? (i := 1) rfl))) (mvT hZ (hw _ (List.mem_of_getElem? (i := 2) rfl))) (mvT hZ (hw _ (List.mem_of_getElem? (i := 3) rfl))) (mvT hZ (hw _ (List.mem_of_getElem? (i := 4) rfl))) (by decide) (backOf (W := 1) (rm1 l Z a0 hw [] vj W h0 n0 (Nat.le_trans Z0 (Keep.refl h0 []).1) S_BOOLEAN S_BYTE S_UNSIGNED_BYTE S_CHAR S_INT S_LONG S_FLOAT S_DOUBLE S_STRING16 S_UTF8 S_BINDER S_NULLABLE_BINDER S_FILE_DESCRIPTOR S_PARCEL_FILE_DESCRIPTOR S_PARCELABLE_HOLDER) hZ (hw _ (List.mem_of_getElem? (i := 4) rfl)) (hw _ (List.mem_of_getElem? (i := 3) rfl)) (by decide) (by decide)) (g := (mkF m 33 #[.val (.int p1), .val (.int i1), .val (.ref (W (own_idx i1))), .val (.ref (own_ae W (W (own_idx i1)))), .val (.int vj)] [(.int vj), (.ref (own_ae W (W (own_idx i1))))])) rfl (by rw [hml]; rfl) (argsL := [(.int vj)]) (rest := [(.ref (own_ae W (W (own_idx i1))))]) (lenOf own_pd0 rfl) rfl (by show 2 * 0 + _ ≤ _; exact Nat.le_of_eq rfl) (hb hby at_33) (fun _ _ => ⟨rfl, ez2, (by decide : 0 + 0 ≤ _), (by decide : 0 + 0 ≤ _)⟩)
  dsimp only [Pt.U, Pt.locs, Pt.cells, Pt.slots] at X4 lz4 yz4 zz4 st4 hQ4
  subst lz4 yz4 zz4
  obtain ⟨rfl, Nq4, ez4⟩ := hQ4
  have N4 := Fr.app N2 Nq4
  refine OGo.st st4 ?_
  show OGo p.tables e below _ (T4.setTop (mkF m 36 #[.val (.int p1), .val (.int i1), .val (.ref (W (own_idx i1))), .val (.ref (own_ae W (W (own_idx i1)))), .val (.int vj)] [(.ref (W (own_idx vj))), (.ref (own_ae W (W (own_idx i1))))]))
  refine OGo.st (fun _ k_ => XT.acmpNo X4.here hx rfl (hb hby at_36) rfl rfl rfl (XT.aa_ne_f (congrArg Value.ref (own_p1 W hne hvz3))) k_) ?_
  show OGo p.tables e below _ (T4.setTop (mkF m 39 #[.val (.int p1), .val (.int i1), .val (.ref (W (own_idx i1))), .val (.ref (own_ae W (W (own_idx i1)))), .val (.int vj)] []))
  refine OGo.st (fun _ k_ => XS.aloadN X4.here hx rfl (hb hby at_39) rfl rfl k_) ?_
  show OGo p.tables e below _ (T4.setTop (mkF m 40 #[.val (.int p1), .val (.int i1), .val (.ref (W (own_idx i1))), .val (.ref (own_ae W (W (own_idx i1)))), .val (.int vj)] [(.ref (own_ae W (W (own_idx i1))))]))
  obtain ⟨cq5, kqz5, qz5a, qz5b, qz5c⟩ := isOf hZ ez4 Eb
  obtain ⟨_, _, ⟨T5, Lz5, kz5, nz5⟩, -, X5, ⟨Lc5, hQ5, lz5, yz5, zz5⟩, st5⟩ := X4.virtualBack hx (y := (⟨"com/example/weaverbird/weaverbird/cppgen/CppType$Form", "asElement", "()Lcom/example/weaverbird/weaverbird/cppgen/CppType$Form;"⟩ : MethodName)) (z := (⟨"com/example/weaverbird/weaverbird/cppgen/CppType$Form", "asElement", "()Lcom/example/weaverbird/weaverbird/cppgen/CppType$Form;"⟩ : MethodName)) hown (mvT hZ (hw _ (List.mem_of_getElem? (i := 8) rfl))) (mvT hZ (hw _ (List.mem_of_getElem? (i := 9) rfl))) (notFace_of_selects (args := #[]) (mvT hZ (hw _ (List.mem_of_getElem? (i := 11) rfl)))) (mvT hZ (hw _ (List.mem_of_getElem? (i := 11) rfl))) (mvT hZ (hw _ (List.mem_of_getElem? (i := 10) rfl))) (by decide) (backOf (W := 0) (rm2 l Z a0 hw [] (own_ae W (W (own_idx i1))) W h0 n0 (Nat.le_trans Z0 (Keep.refl h0 []).1) S_BYTE S_UNSIGNED_BYTE) hZ (hw _ (List.mem_of_getElem? (i := 12) rfl)) (hw _ (List.mem_of_getElem? (i := 6) rfl)) (by decide) (by decide)) qz5a qz5c (g := (mkF m 40 #[.val (.int p1), .val (.int i1), .val (.ref (W (own_idx i1))), .val (.ref (own_ae W (W (own_idx i1)))), .val (.int vj)] [(.ref (own_ae W (W (own_idx i1))))])) rfl (by rw [hml]; rfl) (Steps.refl _) (argsL := []) (rest := []) (lenOf own_pd1 rfl) rfl (by show 2 * 0 + _ ≤ _; exact Nat.le_of_eq rfl) (hb hby at_40) (fun _ _ => ⟨rfl, ez4, (by decide : 0 + 0 ≤ _), (by decide : 0 + 0 ≤ _)⟩)
  dsimp only [Pt.U, Pt.locs, Pt.cells, Pt.slots] at X5 lz5 yz5 zz5 st5 hQ5
  subst lz5 yz5 zz5
  obtain ⟨rfl, Nq5, ez5⟩ := hQ5
  have N5 := Fr.app N4 Nq5
  refine OGo.tr st5 ?_
  show OGo p.tables e below _ (T5.setTop (mkF m 43 #[.val (.int p1), .val (.int i1), .val (.ref (W (own_idx i1))), .val (.ref (own_ae W (W (own_idx i1)))), .val (.int vj)] [(.ref (own_ae W (own_ae W (W (own_idx i1)))))]))
  refine OGo.st (fun _ k_ => XS.aloadN X5.here hx rfl (hb hby at_43) rfl rfl k_) ?_
  show OGo p.tables e below _ (T5.setTop (mkF m 44 #[.val (.int p1), .val (.int i1), .val (.ref (W (own_idx i1))), .val (.ref (own_ae W (W (own_idx i1)))), .val (.int vj)] [(.ref (own_ae W (W (own_idx i1)))), (.ref (own_ae W (own_ae W (W (own_idx i1)))))]))
  refine OGo.st (fun _ k_ => XT.acmpNo X5.here hx rfl (hb hby at_44) rfl rfl rfl (XT.aa_ne_f (congrArg Value.ref (by rw [own_p1 W hne hvz3]; exact own_p2 W hne hvz3))) k_) ?_
  show OGo p.tables e below _ (T5.setTop (mkF m 47 #[.val (.int p1), .val (.int i1), .val (.ref (W (own_idx i1))), .val (.ref (own_ae W (W (own_idx i1)))), .val (.int vj)] []))
  refine OGo.st (fun _ k_ => XS.iconst X5.here hx rfl (hb hby at_47) k_) ?_
  show OGo p.tables e below _ (T5.setTop (mkF m 48 #[.val (.int p1), .val (.int i1), .val (.ref (W (own_idx i1))), .val (.ref (own_ae W (W (own_idx i1)))), .val (.int vj)] [(.int (1 : Int32))]))
  refine OGo.st (fun _ k_ => XS.goto X5.here hx rfl (pc0 := 48) (pc' := 52) rfl (hb hby at_48) (by decide) (by decide) k_) ?_
  show OGo p.tables e below _ (T5.setTop (mkF m 52 #[.val (.int p1), .val (.int i1), .val (.ref (W (own_idx i1))), .val (.ref (own_ae W (W (own_idx i1)))), .val (.int vj)] [(.int (1 : Int32))]))
  refine OGo.fin X5 (v := some (.int (1 : Int32))) (fun h => by rw [Bd.returns] at h; cases h) hlk (fun fs hr => X5.ireturnOut hx Bd.returns rfl (by simp) (hb hby at_52) hr) ?_ (by decide) (by decide)
  show own_Q_rm0 Z p1 W h0 n0 _ T5.heap _
  rw [ez5]
  exact ⟨rfl, N5⟩
set_option maxRecDepth 65536 in
set_option maxHeartbeats 40000000 in
theorem comes_1 {Post : Tables → Env → Array Value → State → Outcome → State → Prop} (hpost : ∀ tb e args s v u, (limb_1_1.after args s (.returned v) u = true ∧ limb_1_2.after args s (.returned v) u = true ∧ True) → FrameEnd s (.returned v) u (Jvm.fieldLocs frame_1_writes args s ++ Jvm.arrayLocs frame_1_arrays args s ++ Jvm.staticLocs frame_1_statics s) 0 0 → Post tb e args s (.returned v) u) :
    ArmFor flags0 classFile x code maxLocals ret World_1 tables_1 room_1 Calls_1 rest_1 Pre_1 Post := by
  intro l hfl _ _ p e ha hc hk s m args below hf hA hF happ hP
  obtain ⟨hcalls, hrest, hpre⟩ := hP
  obtain ⟨-, -, -, hnamed, -, -, -, hat⟩ := (Spec.applies_iff hf).mp happ
  obtain ⟨hg, hn⟩ := and_e (Cond.before_iff.mp (show (Jvm.Cond.and given_1 narrow_1).before args s = true from hpre))
  obtain ⟨g0, r0⟩ := and_e hg
  obtain ⟨w0, rfl⟩ : ∃ w0 : Value, args = #[w0] := by
    have hs : args.size = 1 := by simpa [Cond.value, given_1] using g0
    obtain ⟨L⟩ := args
    match L, hs with
    | [w0], _ => exact ⟨w0, rfl⟩
  have hw := fun d (hd : d ∈ tables_1) => atoms_spec (ws := Jvm.Cond.code x code maxLocals ret :: tables_1) hat d (List.mem_cons_of_mem _ hd)
  have hfit : Fit s := fun {y c} hc i hi => by
    obtain ⟨ha, rfl⟩ := Array.getElem?_eq_some_iff.mp hc
    have q := List.all_eq_true.mp ((Array.all_eq_true_iff_forall_mem.mp hF) _ (Array.getElem_mem ha)) i (List.mem_range.mpr hi)
    simpa [Array.getElem?_eq_getElem hi] using q
  obtain ⟨i0, ei0⟩ := is_v r0
  obtain rfl : w0 = (.int i0) := Option.some.inj ei0
  obtain ⟨c0, hn⟩ := and_e hn
  obtain ⟨c1, hn⟩ := and_e hn
  obtain ⟨c2, hn⟩ := and_e hn
  obtain ⟨c3, hn⟩ := and_e hn
  obtain ⟨c4, hn⟩ := and_e hn
  obtain ⟨c5, hn⟩ := and_e hn
  obtain ⟨c6, hn⟩ := and_e hn
  obtain ⟨c7, hn⟩ := and_e hn
  obtain ⟨c8, hn⟩ := and_e hn
  obtain ⟨c9, hn⟩ := and_e hn
  obtain ⟨c10, hn⟩ := and_e hn
  obtain ⟨c11, hn⟩ := and_e hn
  obtain ⟨c12, hn⟩ := and_e hn
  obtain ⟨c13, hn⟩ := and_e hn
  obtain ⟨c14, hn⟩ := and_e hn
  obtain ⟨c15, hn⟩ := and_e hn
  obtain ⟨c16, hn⟩ := and_e hn
  obtain ⟨c17, hn⟩ := and_e hn
  obtain ⟨c18, hn⟩ := and_e hn
  obtain ⟨c19, hn⟩ := and_e hn
  obtain ⟨c20, hn⟩ := and_e hn
  obtain ⟨c21, hn⟩ := and_e hn
  obtain ⟨c22, hn⟩ := and_e hn
  obtain ⟨c23, hn⟩ := and_e hn
  obtain ⟨c24, hn⟩ := and_e hn
  obtain ⟨c25, hn⟩ := and_e hn
  obtain ⟨c26, hn⟩ := and_e hn
  obtain ⟨c27, hn⟩ := and_e hn
  obtain ⟨c28, hn⟩ := and_e hn
  have c29 := hn
  obtain ⟨w0_, ev0⟩ := exa_v c0
  have S0 : Sta s s.heap "com/example/weaverbird/weaverbird/cppgen/CppType$Form" "BOOLEAN" "Lcom/example/weaverbird/weaverbird/cppgen/CppType$Form;" (.ref w0_) := Sta.start ev0 (Or.inr ⟨(hw _ (List.mem_of_getElem? (i := 6) rfl)), (hw _ (List.mem_of_getElem? (i := 7) rfl))⟩)
  have E0 := Exa.start ev0 c0
  obtain ⟨w1_, ev1⟩ := exa_v c1
  have S1 : Sta s s.heap "com/example/weaverbird/weaverbird/cppgen/CppType$Form" "BYTE" "Lcom/example/weaverbird/weaverbird/cppgen/CppType$Form;" (.ref w1_) := Sta.start ev1 (Or.inr ⟨(hw _ (List.mem_of_getElem? (i := 6) rfl)), (hw _ (List.mem_of_getElem? (i := 14) rfl))⟩)
  have E1 := Exa.start ev1 c1
  obtain ⟨w3_, ev3⟩ := exa_v c4
  have S3 : Sta s s.heap "com/example/weaverbird/weaverbird/cppgen/CppType$Form" "CHAR" "Lcom/example/weaverbird/weaverbird/cppgen/CppType$Form;" (.ref w3_) := Sta.start ev3 (Or.inr ⟨(hw _ (List.mem_of_getElem? (i := 6) rfl)), (hw _ (List.mem_of_getElem? (i := 16) rfl))⟩)
  have E3 := Exa.start ev3 c4
  obtain ⟨w5_, ev5⟩ := exa_v c6
  have S5 : Sta s s.heap "com/example/weaverbird/weaverbird/cppgen/CppType$Form" "LONG" "Lcom/example/weaverbird/weaverbird/cppgen/CppType$Form;" (.ref w5_) := Sta.start ev5 (Or.inr ⟨(hw _ (List.mem_of_getElem? (i := 6) rfl)), (hw _ (List.mem_of_getElem? (i := 18) rfl))⟩)
  have E5 := Exa.start ev5 c6
  obtain ⟨w13_, ev13⟩ := exa_v c8
  have S13 : Sta s s.heap "com/example/weaverbird/weaverbird/cppgen/CppType$Form" "PARCEL_FILE_DESCRIPTOR" "Lcom/example/weaverbird/weaverbird/cppgen/CppType$Form;" (.ref w13_) := Sta.start ev13 (Or.inr ⟨(hw _ (List.mem_of_getElem? (i := 6) rfl)), (hw _ (List.mem_of_getElem? (i := 20) rfl))⟩)
  have E13 := Exa.start ev13 c8
  obtain ⟨w6_, ev6⟩ := exa_v c10
  have S6 : Sta s s.heap "com/example/weaverbird/weaverbird/cppgen/CppType$Form" "FLOAT" "Lcom/example/weaverbird/weaverbird/cppgen/CppType$Form;" (.ref w6_) := Sta.start ev6 (Or.inr ⟨(hw _ (List.mem_of_getElem? (i := 6) rfl)), (hw _ (List.mem_of_getElem? (i := 22) rfl))⟩)
  have E6 := Exa.start ev6 c10
  obtain ⟨w14_, ev14⟩ := exa_v c12
  have S14 : Sta s s.heap "com/example/weaverbird/weaverbird/cppgen/CppType$Form" "PARCELABLE_HOLDER" "Lcom/example/weaverbird/weaverbird/cppgen/CppType$Form;" (.ref w14_) := Sta.start ev14 (Or.inr ⟨(hw _ (List.mem_of_getElem? (i := 6) rfl)), (hw _ (List.mem_of_getElem? (i := 24) rfl))⟩)
  have E14 := Exa.start ev14 c12
  obtain ⟨w7_, ev7⟩ := exa_v c14
  have S7 : Sta s s.heap "com/example/weaverbird/weaverbird/cppgen/CppType$Form" "DOUBLE" "Lcom/example/weaverbird/weaverbird/cppgen/CppType$Form;" (.ref w7_) := Sta.start ev7 (Or.inr ⟨(hw _ (List.mem_of_getElem? (i := 6) rfl)), (hw _ (List.mem_of_getElem? (i := 26) rfl))⟩)
  have E7 := Exa.start ev7 c14
  obtain ⟨w2_, ev2⟩ := exa_v c16
  have S2 : Sta s s.heap "com/example/weaverbird/weaverbird/cppgen/CppType$Form" "UNSIGNED_BYTE" "Lcom/example/weaverbird/weaverbird/cppgen/CppType$Form;" (.ref w2_) := Sta.start ev2 (Or.inr ⟨(hw _ (List.mem_of_getElem? (i := 6) rfl)), (hw _ (List.mem_of_getElem? (i := 28) rfl))⟩)
  have E2 := Exa.start ev2 c16
  obtain ⟨w11_, ev11⟩ := exa_v c18
  have S11 : Sta s s.heap "com/example/weaverbird/weaverbird/cppgen/CppType$Form" "NULLABLE_BINDER" "Lcom/example/weaverbird/weaverbird/cppgen/CppType$Form;" (.ref w11_) := Sta.start ev11 (Or.inr ⟨(hw _ (List.mem_of_getElem? (i := 6) rfl)), (hw _ (List.mem_of_getElem? (i := 30) rfl))⟩)
  have E11 := Exa.start ev11 c18
  obtain ⟨w10_, ev10⟩ := exa_v c20
  have S10 : Sta s s.heap "com/example/weaverbird/weaverbird/cppgen/CppType$Form" "BINDER" "Lcom/example/weaverbird/weaverbird/cppgen/CppType$Form;" (.ref w10_) := Sta.start ev10 (Or.inr ⟨(hw _ (List.mem_of_getElem? (i := 6) rfl)), (hw _ (List.mem_of_getElem? (i := 32) rfl))⟩)
  have E10 := Exa.start ev10 c20
  obtain ⟨w8_, ev8⟩ := exa_v c22
  have S8 : Sta s s.heap "com/example/weaverbird/weaverbird/cppgen/CppType$Form" "STRING16" "Lcom/example/weaverbird/weaverbird/cppgen/CppType$Form;" (.ref w8_) := Sta.start ev8 (Or.inr ⟨(hw _ (List.mem_of_getElem? (i := 6) rfl)), (hw _ (List.mem_of_getElem? (i := 34) rfl))⟩)
  have E8 := Exa.start ev8 c22
  obtain ⟨w12_, ev12⟩ := exa_v c24
  have S12 : Sta s s.heap "com/example/weaverbird/weaverbird/cppgen/CppType$Form" "FILE_DESCRIPTOR" "Lcom/example/weaverbird/weaverbird/cppgen/CppType$Form;" (.ref w12_) := Sta.start ev12 (Or.inr ⟨(hw _ (List.mem_of_getElem? (i := 6) rfl)), (hw _ (List.mem_of_getElem? (i := 38) rfl))⟩)
  have E12 := Exa.start ev12 c24
  obtain ⟨w4_, ev4⟩ := exa_v c26
  have S4 : Sta s s.heap "com/example/weaverbird/weaverbird/cppgen/CppType$Form" "INT" "Lcom/example/weaverbird/weaverbird/cppgen/CppType$Form;" (.ref w4_) := Sta.start ev4 (Or.inr ⟨(hw _ (List.mem_of_getElem? (i := 6) rfl)), (hw _ (List.mem_of_getElem? (i := 40) rfl))⟩)
  have E4 := Exa.start ev4 c26
  obtain ⟨w9_, ev9⟩ := exa_v c28
  have S9 : Sta s s.heap "com/example/weaverbird/weaverbird/cppgen/CppType$Form" "UTF8" "Lcom/example/weaverbird/weaverbird/cppgen/CppType$Form;" (.ref w9_) := Sta.start ev9 (Or.inr ⟨(hw _ (List.mem_of_getElem? (i := 6) rfl)), (hw _ (List.mem_of_getElem? (i := 42) rfl))⟩)
  have E9 := Exa.start ev9 c28
  have F0 := own_ord ev0 c2
  have F1 := own_ord ev1 c3
  have F3 := own_ord ev3 c5
  have F5 := own_ord ev5 c7
  have F13 := own_ord ev13 c9
  have F6 := own_ord ev6 c11
  have F14 := own_ord ev14 c13
  have F7 := own_ord ev7 c15
  have F2 := own_ord ev2 c17
  have F11 := own_ord ev11 c19
  have F10 := own_ord ev10 c21
  have F8 := own_ord ev8 c23
  have F12 := own_ord ev12 c25
  have F4 := own_ord ev4 c27
  have F9 := own_ord ev9 c29
  have hE : ∀ k, k < 15 → Exa s s.heap ((fun k => ([w0_, w1_, w2_, w3_, w4_, w5_, w6_, w7_, w8_, w9_, w10_, w11_, w12_, w13_, w14_] : List Addr).getD k 0) k) "com/example/weaverbird/weaverbird/cppgen/CppType$Form" := fun k hk => match k, hk with
    | 0, _ => E0
    | 1, _ => E1
    | 2, _ => E2
    | 3, _ => E3
    | 4, _ => E4
    | 5, _ => E5
    | 6, _ => E6
    | 7, _ => E7
    | 8, _ => E8
    | 9, _ => E9
    | 10, _ => E10
    | 11, _ => E11
    | 12, _ => E12
    | 13, _ => E13
    | 14, _ => E14
    | (n + 15), q => absurd q (by omega)
  have hne : ∀ k, k < 15 → k ≠ 1 → (fun k => ([w0_, w1_, w2_, w3_, w4_, w5_, w6_, w7_, w8_, w9_, w10_, w11_, w12_, w13_, w14_] : List Addr).getD k 0) k ≠ (fun k => ([w0_, w1_, w2_, w3_, w4_, w5_, w6_, w7_, w8_, w9_, w10_, w11_, w12_, w13_, w14_] : List Addr).getD k 0) 1 := fun k hk q => match k, hk, q with
    | 0, _, q => Fld.ne F0 F1 (fun z => absurd (Value.int.inj z) (by decide))
    | 1, _, q => absurd rfl q
    | 2, _, q => Fld.ne F2 F1 (fun z => absurd (Value.int.inj z) (by decide))
    | 3, _, q => Fld.ne F3 F1 (fun z => absurd (Value.int.inj z) (by decide))
    | 4, _, q => Fld.ne F4 F1 (fun z => absurd (Value.int.inj z) (by decide))
    | 5, _, q => Fld.ne F5 F1 (fun z => absurd (Value.int.inj z) (by decide))
    | 6, _, q => Fld.ne F6 F1 (fun z => absurd (Value.int.inj z) (by decide))
    | 7, _, q => Fld.ne F7 F1 (fun z => absurd (Value.int.inj z) (by decide))
    | 8, _, q => Fld.ne F8 F1 (fun z => absurd (Value.int.inj z) (by decide))
    | 9, _, q => Fld.ne F9 F1 (fun z => absurd (Value.int.inj z) (by decide))
    | 10, _, q => Fld.ne F10 F1 (fun z => absurd (Value.int.inj z) (by decide))
    | 11, _, q => Fld.ne F11 F1 (fun z => absurd (Value.int.inj z) (by decide))
    | 12, _, q => Fld.ne F12 F1 (fun z => absurd (Value.int.inj z) (by decide))
    | 13, _, q => Fld.ne F13 F1 (fun z => absurd (Value.int.inj z) (by decide))
    | 14, _, q => Fld.ne F14 F1 (fun z => absurd (Value.int.inj z) (by decide))
    | (n + 15), h, _ => absurd h (by omega)
  obtain ⟨n, o, h1, h2, h3, _, L, rfl, ⟨rfl, N⟩, hq⟩ := rm0 l s _ hw tables_1 i0 (fun k => ([w0_, w1_, w2_, w3_, w4_, w5_, w6_, w7_, w8_, w9_, w10_, w11_, w12_, w13_, w14_] : List Addr).getD k 0) s.heap s.heap.size (Nat.le_refl _) S0 S1 S2 S3 S4 S5 S6 S7 S8 S9 S10 S11 S12 S13 S14 hE hne p e ha hc hk s m _ below hf ((Spec.applies_iff_loose hf).mp happ).1 ⟨rfl, State.Warmed39.refl s, rfl⟩ trivial
  refine ⟨n, _, h1, h2, h3, hpost _ _ _ _ _ _ ⟨Cond.after_iff.mpr rfl, Cond.after_iff.mpr (eq_i res_at (Term.int_eval (1)) rfl), trivial⟩ ⟨hq.1, hq.2.1, (hq.2.2.sift fun y hy => Or.inr (N y hy)).mono (by decide) (by decide)⟩⟩
theorem main_1_1 : Claimed_1_1 := comes_1 fun _ _ _ _ _ _ h hF => ⟨h.1, hF⟩
theorem main_1_2 : Claimed_1_2 := comes_1 fun _ _ _ _ _ _ h hF => ⟨h.2.1, hF⟩
end Jvm.Pilot.@@N@@
namespace Jvm.Pilot.@@N@@
open Jvm Jvm.ClassFile Sem Op Lib Jvm.Free Jvm.Stand Jvm.Pilot.@@N@@.Jvm.D
/-! MADE BY PROGRAM (witnessworld.py) out of the Statement's table words and the real class files: 12 classes; the members and pool entries that the words name. The judged class is class 1, her method 1. -/
namespace start1
open Jvm.ClassFile
def u (s : String) : CpInfo := .utf8 (stringToUtf16 s)
/-- a pool by its gaps: so many unusable entries, then the entry; so many at the end -/
def gap : Nat → List CpInfo → List CpInfo
  | 0, r => r
  | n + 1, r => .unusable :: gap n r
def poolList (es : List (Nat × CpInfo)) (last : Nat) : List CpInfo := es.foldr (fun e r => gap e.1 (e.2 :: r)) (gap last [])
def pool (es : List (Nat × CpInfo)) (last : Nat) : Array CpInfo := ⟨poolList es last⟩
def fileOf (pool : Array CpInfo) (this : Nat) (attrs : Array Attribute := #[]) (ms : Array MethodInfo := #[]) (fl : Nat := 33) (sup : Nat := 0) (ifs : Array Nat := #[]) (fds : Array FieldInfo := #[]) : ClassFile where
  minorVersion := 0
  majorVersion := 65
  constantPool := pool
  accessFlags := fl
  thisClass := this
  superClass := sup
  interfaces := ifs
  fields := fds
  methods := ms
  attributes := attrs
def plain (name : String) (sup : Option ClassId) : Class where
  name := name
  kind := .ordinary
  loader := none
  accessFlags := 33
  super := sup
  interfaces := #[]
  cf := none
  fields := #[]
  methods := #[]
  instanceTypes := #[]
  staticTypes := #[]
  resolved := #[]
  callSites := []
  init := .initialized
  statics := none
  mirror := none

def pool0 : Array CpInfo := pool [(5, u "<init>"), (0, u "()V"), (1, .class_ 10), (1, u "java/lang/Object")] 113

def k0m0 : Method := { name := "<init>", desc := "()V", sig := { parameters := [], returnType := none }, accessFlags := 1, code := none }
/-- java/lang/Object -/
def k0 : Class := { plain "java/lang/Object" none with
  accessFlags := 33
  interfaces := #[]
  cf := some (fileOf pool0 8 #[] #[{ accessFlags := 1, nameIndex := 5, descriptorIndex := 6, attributes := #[] }] 33 0 #[] #[])
  fields := #[]
  methods := #[k0m0]
  instanceTypes := #[]
  staticTypes := #[]
  resolved := Array.replicate 124 none
  statics := none }

def pool1 : Array CpInfo := pool [(2, .class_ 4), (1, u "java/lang/Object"), (0, u "<init>"), (0, u "()V"), (0, .integer 2147483647), (0, .methodref 9 10), (0, .class_ 11), (0, .nameAndType 12 13), (0, u "com/example/weaverbird/weaverbird/cppgen/FormAsElementPinLaw"), (0, u "form"), (0, u "(I)Lcom/example/weaverbird/weaverbird/cppgen/CppType$Form;"), (0, .methodref 15 16), (0, .class_ 17), (0, .nameAndType 18 19), (0, u "com/example/weaverbird/weaverbird/cppgen/CppType$Form"), (0, u "asElement"), (0, u "()Lcom/example/weaverbird/weaverbird/cppgen/CppType$Form;"), (0, .fieldref 15 21), (0, .nameAndType 22 23), (0, u "BOOLEAN"), (0, u "Lcom/example/weaverbird/weaverbird/cppgen/CppType$Form;"), (0, .fieldref 15 25), (0, .nameAndType 26 23), (0, u "BYTE"), (0, .fieldref 15 28), (0, .nameAndType 29 23), (0, u "UNSIGNED_BYTE"), (0, .fieldref 15 31), (0, .nameAndType 32 23), (0, u "CHAR"), (0, .fieldref 15 34), (0, .nameAndType 35 23), (0, u "INT"), (0, .fieldref 15 37), (0, .nameAndType 38 23), (0, u "LONG"), (0, .fieldref 15 40), (0, .nameAndType 41 23), (0, u "FLOAT"), (0, .fieldref 15 43), (0, .nameAndType 44 23), (0, u "DOUBLE"), (0, .fieldref 15 46), (0, .nameAndType 47 23), (0, u "STRING16"), (0, .fieldref 15 49), (0, .nameAndType 50 23), (0, u "UTF8"), (0, .fieldref 15 52), (0, .nameAndType 53 23), (0, u "BINDER"), (0, .fieldref 15 55), (0, .nameAndType 56 23), (0, u "NULLABLE_BINDER"), (0, .fieldref 15 58), (0, .nameAndType 59 23), (0, u "FILE_DESCRIPTOR"), (0, .fieldref 15 61), (0, .nameAndType 62 23), (0, u "PARCEL_FILE_DESCRIPTOR"), (0, .fieldref 15 64), (0, .nameAndType 65 23), (0, u "PARCELABLE_HOLDER"), (2, u "law"), (0, u "(I)Z")] 7

def k1m0 : Method := { name := "<init>", desc := "()V", sig := { parameters := [], returnType := none }, accessFlags := 1, code := none }
def k1c1 : Code := { maxStack := 2, maxLocals := 5, code := code, exceptionTable := #[], attributes := #[] }
def k1m1 : Method := { name := "law", desc := "(I)Z", sig := { parameters := [.int], returnType := some .boolean }, accessFlags := 9, code := some k1c1 }
def k1c2 : Code := { maxStack := 2, maxLocals := 1, code := method_3_code, exceptionTable := #[], attributes := #[] }
def k1m2 : Method := { name := "form", desc := "(I)Lcom/example/weaverbird/weaverbird/cppgen/CppType$Form;", sig := { parameters := [.int], returnType := some (.object "com/example/weaverbird/weaverbird/cppgen/CppType$Form") }, accessFlags := 10, code := some k1c2 }
/-- com/example/weaverbird/weaverbird/cppgen/FormAsElementPinLaw -/
def k1 : Class := { plain "com/example/weaverbird/weaverbird/cppgen/FormAsElementPinLaw" (some 0) with
  accessFlags := 49
  interfaces := #[]
  cf := some (fileOf pool1 9 #[] #[{ accessFlags := 1, nameIndex := 5, descriptorIndex := 6, attributes := #[] }, { accessFlags := 9, nameIndex := 68, descriptorIndex := 69, attributes := #[] }, { accessFlags := 10, nameIndex := 12, descriptorIndex := 13, attributes := #[] }] 49 2 #[] #[])
  fields := #[]
  methods := #[k1m0, k1m1, k1m2]
  instanceTypes := #[]
  staticTypes := #[]
  resolved := Array.replicate 77 none
  statics := none }

def pool2 : Array CpInfo := pool [(1, .class_ 2), (0, u "java/lang/constant/Constable"), (0, .class_ 4), (0, u "java/lang/Object")] 6

/-- java/lang/constant/Constable -/
def k2 : Class := { plain "java/lang/constant/Constable" (some 0) with
  accessFlags := 1537
  interfaces := #[]
  cf := some (fileOf pool2 1 #[] #[] 1537 3 #[] #[])
  fields := #[]
  methods := #[]
  instanceTypes := #[]
  staticTypes := #[]
  resolved := Array.replicate 11 none
  statics := none }

def pool3 : Array CpInfo := pool [(1, .class_ 2), (0, u "java/lang/Comparable"), (0, .class_ 4), (0, u "java/lang/Object")] 7

/-- java/lang/Comparable -/
def k3 : Class := { plain "java/lang/Comparable" (some 0) with
  accessFlags := 1537
  interfaces := #[]
  cf := some (fileOf pool3 1 #[] #[] 1537 3 #[] #[])
  fields := #[]
  methods := #[]
  instanceTypes := #[]
  staticTypes := #[]
  resolved := Array.replicate 12 none
  statics := none }

def pool4 : Array CpInfo := pool [(1, .class_ 2), (0, u "java/io/Serializable"), (0, .class_ 4), (0, u "java/lang/Object")] 2

/-- java/io/Serializable -/
def k4 : Class := { plain "java/io/Serializable" (some 0) with
  accessFlags := 1537
  interfaces := #[]
  cf := some (fileOf pool4 1 #[] #[] 1537 3 #[] #[])
  fields := #[]
  methods := #[]
  instanceTypes := #[]
  staticTypes := #[]
  resolved := Array.replicate 7 none
  statics := none }

def pool5 : Array CpInfo := pool [(2, .class_ 4), (1, u "java/lang/Enum"), (0, u "name"), (0, u "Ljava/lang/String;"), (2, u "ordinal"), (0, u "I"), (1, .class_ 14), (1, u "java/lang/Object"), (4, u "hash"), (86, .class_ 108), (1, u "java/lang/Enum$EnumDesc"), (2, .class_ 112), (0, u "java/lang/constant/Constable"), (0, .class_ 114), (0, u "java/lang/Comparable"), (0, .class_ 116), (0, u "java/io/Serializable")] 87

/-- java/lang/Enum -/
def k5 : Class := { plain "java/lang/Enum" (some 0) with
  accessFlags := 1057
  interfaces := #[2, 3, 4]
  cf := some (fileOf pool5 2 #[.nestMembers #[106]] #[] 1057 12 #[111, 113, 115] #[{ accessFlags := 18, nameIndex := 5, descriptorIndex := 6, attributes := #[] }, { accessFlags := 18, nameIndex := 9, descriptorIndex := 10, attributes := #[] }, { accessFlags := 2, nameIndex := 19, descriptorIndex := 10, attributes := #[] }])
  fields := #[{ name := "name", type := (.object "java/lang/String"), accessFlags := 18, slot := 0, constantValue := 0 }, { name := "ordinal", type := .int, accessFlags := 18, slot := 1, constantValue := 0 }, { name := "hash", type := .int, accessFlags := 2, slot := 2, constantValue := 0 }]
  methods := #[]
  instanceTypes := #[(.object "java/lang/String"), .int, .int]
  staticTypes := #[]
  resolved := Array.replicate 204 none
  statics := none }

def pool6 : Array CpInfo := pool [(1, .class_ 2), (0, u "com/example/weaverbird/weaverbird/cppgen/CppType$Form"), (2, u "BOOLEAN"), (0, u "Lcom/example/weaverbird/weaverbird/cppgen/CppType$Form;"), (0, .fieldref 1 8), (0, .nameAndType 9 6), (0, u "BYTE"), (0, .fieldref 1 11), (0, .nameAndType 12 6), (0, u "UNSIGNED_BYTE"), (2, u "CHAR"), (2, u "INT"), (2, u "LONG"), (2, u "FLOAT"), (2, u "DOUBLE"), (2, u "STRING16"), (2, u "UTF8"), (2, u "BINDER"), (2, u "NULLABLE_BINDER"), (2, u "FILE_DESCRIPTOR"), (2, u "PARCEL_FILE_DESCRIPTOR"), (2, u "PARCELABLE_HOLDER"), (2, u "$VALUES"), (0, u "[Lcom/example/weaverbird/weaverbird/cppgen/CppType$Form;"), (6, .class_ 61), (1, u "java/lang/Enum"), (11, u "cppName"), (0, u "Ljava/lang/String;"), (6, u "write"), (3, u "read"), (2, u "vectorWrite"), (2, u "vectorRead"), (2, u "zero"), (2, u "heldAsIs"), (0, u "Z"), (131, u "asElement"), (0, u "()Lcom/example/weaverbird/weaverbird/cppgen/CppType$Form;"), (6, .class_ 239), (0, u "com/example/weaverbird/weaverbird/cppgen/CppType")] 18

def k6c0 : Code := { maxStack := 2, maxLocals := 1, code := prog_12_method_8_code, exceptionTable := #[], attributes := #[] }
def k6m0 : Method := { name := "asElement", desc := "()Lcom/example/weaverbird/weaverbird/cppgen/CppType$Form;", sig := { parameters := [], returnType := some (.object "com/example/weaverbird/weaverbird/cppgen/CppType$Form") }, accessFlags := 0, code := some k6c0 }
/-- com/example/weaverbird/weaverbird/cppgen/CppType$Form -/
def k6 : Class := { plain "com/example/weaverbird/weaverbird/cppgen/CppType$Form" (some 5) with
  accessFlags := 16433
  interfaces := #[]
  cf := some (fileOf pool6 1 #[.nestHost 238] #[{ accessFlags := 0, nameIndex := 230, descriptorIndex := 231, attributes := #[] }] 16433 59 #[] #[{ accessFlags := 16409, nameIndex := 5, descriptorIndex := 6, attributes := #[] }, { accessFlags := 16409, nameIndex := 9, descriptorIndex := 6, attributes := #[] }, { accessFlags := 16409, nameIndex := 12, descriptorIndex := 6, attributes := #[] }, { accessFlags := 16409, nameIndex := 15, descriptorIndex := 6, attributes := #[] }, { accessFlags := 16409, nameIndex := 18, descriptorIndex := 6, attributes := #[] }, { accessFlags := 16409, nameIndex := 21, descriptorIndex := 6, attributes := #[] }, { accessFlags := 16409, nameIndex := 24, descriptorIndex := 6, attributes := #[] }, { accessFlags := 16409, nameIndex := 27, descriptorIndex := 6, attributes := #[] }, { accessFlags := 16409, nameIndex := 30, descriptorIndex := 6, attributes := #[] }, { accessFlags := 16409, nameIndex := 33, descriptorIndex := 6, attributes := #[] }, { accessFlags := 16409, nameIndex := 36, descriptorIndex := 6, attributes := #[] }, { accessFlags := 16409, nameIndex := 39, descriptorIndex := 6, attributes := #[] }, { accessFlags := 16409, nameIndex := 42, descriptorIndex := 6, attributes := #[] }, { accessFlags := 16409, nameIndex := 45, descriptorIndex := 6, attributes := #[] }, { accessFlags := 16409, nameIndex := 48, descriptorIndex := 6, attributes := #[] }, { accessFlags := 18, nameIndex := 73, descriptorIndex := 74, attributes := #[] }, { accessFlags := 18, nameIndex := 81, descriptorIndex := 74, attributes := #[] }, { accessFlags := 18, nameIndex := 85, descriptorIndex := 74, attributes := #[] }, { accessFlags := 18, nameIndex := 88, descriptorIndex := 74, attributes := #[] }, { accessFlags := 18, nameIndex := 91, descriptorIndex := 74, attributes := #[] }, { accessFlags := 18, nameIndex := 94, descriptorIndex := 74, attributes := #[] }, { accessFlags := 18, nameIndex := 97, descriptorIndex := 98, attributes := #[] }, { accessFlags := 4122, nameIndex := 51, descriptorIndex := 52, attributes := #[] }])
  fields := #[{ name := "BOOLEAN", type := (.object "com/example/weaverbird/weaverbird/cppgen/CppType$Form"), accessFlags := 16409, slot := 0, constantValue := 0 }, { name := "BYTE", type := (.object "com/example/weaverbird/weaverbird/cppgen/CppType$Form"), accessFlags := 16409, slot := 1, constantValue := 0 }, { name := "UNSIGNED_BYTE", type := (.object "com/example/weaverbird/weaverbird/cppgen/CppType$Form"), accessFlags := 16409, slot := 2, constantValue := 0 }, { name := "CHAR", type := (.object "com/example/weaverbird/weaverbird/cppgen/CppType$Form"), accessFlags := 16409, slot := 3, constantValue := 0 }, { name := "INT", type := (.object "com/example/weaverbird/weaverbird/cppgen/CppType$Form"), accessFlags := 16409, slot := 4, constantValue := 0 }, { name := "LONG", type := (.object "com/example/weaverbird/weaverbird/cppgen/CppType$Form"), accessFlags := 16409, slot := 5, constantValue := 0 }, { name := "FLOAT", type := (.object "com/example/weaverbird/weaverbird/cppgen/CppType$Form"), accessFlags := 16409, slot := 6, constantValue := 0 }, { name := "DOUBLE", type := (.object "com/example/weaverbird/weaverbird/cppgen/CppType$Form"), accessFlags := 16409, slot := 7, constantValue := 0 }, { name := "STRING16", type := (.object "com/example/weaverbird/weaverbird/cppgen/CppType$Form"), accessFlags := 16409, slot := 8, constantValue := 0 }, { name := "UTF8", type := (.object "com/example/weaverbird/weaverbird/cppgen/CppType$Form"), accessFlags := 16409, slot := 9, constantValue := 0 }, { name := "BINDER", type := (.object "com/example/weaverbird/weaverbird/cppgen/CppType$Form"), accessFlags := 16409, slot := 10, constantValue := 0 }, { name := "NULLABLE_BINDER", type := (.object "com/example/weaverbird/weaverbird/cppgen/CppType$Form"), accessFlags := 16409, slot := 11, constantValue := 0 }, { name := "FILE_DESCRIPTOR", type := (.object "com/example/weaverbird/weaverbird/cppgen/CppType$Form"), accessFlags := 16409, slot := 12, constantValue := 0 }, { name := "PARCEL_FILE_DESCRIPTOR", type := (.object "com/example/weaverbird/weaverbird/cppgen/CppType$Form"), accessFlags := 16409, slot := 13, constantValue := 0 }, { name := "PARCELABLE_HOLDER", type := (.object "com/example/weaverbird/weaverbird/cppgen/CppType$Form"), accessFlags := 16409, slot := 14, constantValue := 0 }, { name := "cppName", type := (.object "java/lang/String"), accessFlags := 18, slot := 3, constantValue := 0 }, { name := "write", type := (.object "java/lang/String"), accessFlags := 18, slot := 4, constantValue := 0 }, { name := "read", type := (.object "java/lang/String"), accessFlags := 18, slot := 5, constantValue := 0 }, { name := "vectorWrite", type := (.object "java/lang/String"), accessFlags := 18, slot := 6, constantValue := 0 }, { name := "vectorRead", type := (.object "java/lang/String"), accessFlags := 18, slot := 7, constantValue := 0 }, { name := "zero", type := (.object "java/lang/String"), accessFlags := 18, slot := 8, constantValue := 0 }, { name := "heldAsIs", type := .boolean, accessFlags := 18, slot := 9, constantValue := 0 }, { name := "$VALUES", type := (.array (.object "com/example/weaverbird/weaverbird/cppgen/CppType$Form")), accessFlags := 4122, slot := 15, constantValue := 0 }]
  methods := #[k6m0]
  instanceTypes := #[(.object "java/lang/String"), .int, .int, (.object "java/lang/String"), (.object "java/lang/String"), (.object "java/lang/String"), (.object "java/lang/String"), (.object "java/lang/String"), (.object "java/lang/String"), .boolean]
  staticTypes := #[(.object "com/example/weaverbird/weaverbird/cppgen/CppType$Form"), (.object "com/example/weaverbird/weaverbird/cppgen/CppType$Form"), (.object "com/example/weaverbird/weaverbird/cppgen/CppType$Form"), (.object "com/example/weaverbird/weaverbird/cppgen/CppType$Form"), (.object "com/example/weaverbird/weaverbird/cppgen/CppType$Form"), (.object "com/example/weaverbird/weaverbird/cppgen/CppType$Form"), (.object "com/example/weaverbird/weaverbird/cppgen/CppType$Form"), (.object "com/example/weaverbird/weaverbird/cppgen/CppType$Form"), (.object "com/example/weaverbird/weaverbird/cppgen/CppType$Form"), (.object "com/example/weaverbird/weaverbird/cppgen/CppType$Form"), (.object "com/example/weaverbird/weaverbird/cppgen/CppType$Form"), (.object "com/example/weaverbird/weaverbird/cppgen/CppType$Form"), (.object "com/example/weaverbird/weaverbird/cppgen/CppType$Form"), (.object "com/example/weaverbird/weaverbird/cppgen/CppType$Form"), (.object "com/example/weaverbird/weaverbird/cppgen/CppType$Form"), (.array (.object "com/example/weaverbird/weaverbird/cppgen/CppType$Form"))]
  resolved := Array.replicate 258 none
  statics := some 0 }

def pool7 : Array CpInfo := pool [(1, u "java/lang/Cloneable"), (0, .class_ 1), (0, u "java/lang/Object"), (0, .class_ 3)] 3

/-- java/lang/Cloneable -/
def k7 : Class := { plain "java/lang/Cloneable" (some 0) with
  accessFlags := 1537
  interfaces := #[]
  cf := some (fileOf pool7 2 #[] #[] 1537 4 #[] #[])
  fields := #[]
  methods := #[]
  instanceTypes := #[]
  staticTypes := #[]
  resolved := Array.replicate 8 none
  statics := none }

/-- the primitive byte -/
def k8 : Class := { plain "byte" none with kind := .primitive 'B', accessFlags := 0x411 }
/-- [B -/
def k9 : Class := { plain "[B" (some 0) with kind := .array 8 .byte, interfaces := #[7, 4], accessFlags := 1041 }

/-- the primitive int -/
def k10 : Class := { plain "int" none with kind := .primitive 'I', accessFlags := 0x411 }
/-- [I -/
def k11 : Class := { plain "[I" (some 0) with kind := .array 10 .int, interfaces := #[7, 4], accessFlags := 1041 }

def heap : Heap := #[{ cls := 6, slots := #[.ref 1, .ref 2, .ref 3, .ref 4, .ref 5, .ref 6, .ref 7, .ref 8, .ref 9, .ref 10, .ref 11, .ref 12, .ref 13, .ref 14, .ref 15, .null], vm := .statics 6 },
  { cls := 6, slots := #[.null, .int 0, .int 0, .null, .null, .null, .null, .null, .null, .int 0], vm := .none },
  { cls := 6, slots := #[.null, .int 1, .int 0, .null, .null, .null, .null, .null, .null, .int 0], vm := .none },
  { cls := 6, slots := #[.null, .int 2, .int 0, .null, .null, .null, .null, .null, .null, .int 0], vm := .none },
  { cls := 6, slots := #[.null, .int 3, .int 0, .null, .null, .null, .null, .null, .null, .int 0], vm := .none },
  { cls := 6, slots := #[.null, .int 4, .int 0, .null, .null, .null, .null, .null, .null, .int 0], vm := .none },
  { cls := 6, slots := #[.null, .int 5, .int 0, .null, .null, .null, .null, .null, .null, .int 0], vm := .none },
  { cls := 6, slots := #[.null, .int 6, .int 0, .null, .null, .null, .null, .null, .null, .int 0], vm := .none },
  { cls := 6, slots := #[.null, .int 7, .int 0, .null, .null, .null, .null, .null, .null, .int 0], vm := .none },
  { cls := 6, slots := #[.null, .int 8, .int 0, .null, .null, .null, .null, .null, .null, .int 0], vm := .none },
  { cls := 6, slots := #[.null, .int 9, .int 0, .null, .null, .null, .null, .null, .null, .int 0], vm := .none },
  { cls := 6, slots := #[.null, .int 10, .int 0, .null, .null, .null, .null, .null, .null, .int 0], vm := .none },
  { cls := 6, slots := #[.null, .int 11, .int 0, .null, .null, .null, .null, .null, .null, .int 0], vm := .none },
  { cls := 6, slots := #[.null, .int 12, .int 0, .null, .null, .null, .null, .null, .null, .int 0], vm := .none },
  { cls := 6, slots := #[.null, .int 13, .int 0, .null, .null, .null, .null, .null, .null, .int 0], vm := .none },
  { cls := 6, slots := #[.null, .int 14, .int 0, .null, .null, .null, .null, .null, .null, .int 0], vm := .none }]
def classes : Array Class := #[k0, k1, k2, k3, k4, k5, k6, k7, k8, k9, k10, k11]
def interned : List (Array UInt16 × Addr) := []
def slotsUsed : Nat := 166
def theMethod : MethodId := ⟨1, 1⟩
def args0 : Array Value := #[.int 3]
def aboutOver (below : List Frame) : State where
  vm := { classes := classes, interned := interned.toArray }
  heap := heap
  slotsUsed := slotsUsed
  threads := #[{ frames := .invoking theMethod args0 :: below }]
def below0 : List Frame := [.native { method := ⟨0, 0⟩, args := #[] }]
def about1 : State := aboutOver below0
def p0 : Program := .bare "" "" ""
def e0 : Env := launch0.env 0 0 0
theorem w_frames : about1.frames = Frame.invoking theMethod args0 :: below0 := rfl
set_option maxRecDepth 65536 in
theorem w_args : argsFit about1.vm theMethod args0 = true := by decide +kernel
set_option maxRecDepth 65536 in
theorem w_heap : heapFits about1 = true := by decide +kernel
set_option maxRecDepth 65536 in
theorem w_runnable : about1.curStatus? = some .runnable := by decide +kernel
set_option maxRecDepth 65536 in
theorem w_alone : about1.alone = true := by decide +kernel
set_option maxRecDepth 65536 in
theorem w_named : about1.methodNamed? x = some theMethod := by decide +kernel
set_option maxRecDepth 65536 in
theorem w_hears : about1.hears theMethod below0 = true := by decide +kernel
set_option maxRecDepth 65536 in
theorem w_ripe : about1.ripe theMethod args0 below0 = true := by decide +kernel
theorem w_running : about1.status = .running := rfl
set_option maxRecDepth 65536 in
theorem w_room : about1.hasRoom e0.platform room_1 = true :=
  launch0.hasRoom_least _ room_1 (by decide +kernel) (by decide +kernel) (by decide +kernel) (by decide +kernel) (by decide +kernel) (by decide +kernel)
theorem allAtoms_all (ts : List Jvm.Cond) (a : Array Jvm.Value) (st : Jvm.State) : (allAtoms ts).before a st = ts.all (fun c => c.before a st) := by
  induction ts with
  | nil => rfl
  | cons c t ih =>
    show (Jvm.Cond.and c (allAtoms t)).before a st = _
    rw [Jvm.Cond.before_and, ih, List.all_cons]
def words1 : List Jvm.Cond := Jvm.Cond.code x code maxLocals ret :: tables_1
/-- a 'code' word, met by the world's own term for the bytes: nothing is compared byte by byte -/
theorem code_word {y : MethodName} {bytes : ByteArray} {mx : Nat} {rt : Option FieldType} {a : Array Value} {s : State} {m : MethodId} {meth : Method} {c : Code} (h1 : s.methodNamed? y = some m) (h2 : s.vm.method? m = some meth) (h3 : meth.code = some c) (h4 : c.code = bytes)
    (h5 : (c.maxLocals == mx && c.exceptionTable.isEmpty && decide (c.maxStack ≤ mostOperands) && decide (meth.sig.returnType = rt) && !meth.locks && decide (parseMethodDescriptor y.desc = some meth.sig)) = true) : (Jvm.Cond.code y bytes mx rt).before a s = true := by
  simp only [Bool.and_eq_true, beq_iff_eq, Bool.not_eq_true', decide_eq_true_eq] at h5
  obtain ⟨⟨⟨⟨⟨g1, g2⟩, g3⟩, g4⟩, g5⟩, g6⟩ := h5
  simp [Cond.before, Cond.holds, Cond.value, h1, h2, h3, h4, g1, g2, g3, g4, g5, g6]
def isCode : Jvm.Cond → Bool
  | .code _ _ _ _ => true
  | _ => false
theorem all_split {L : List Jvm.Cond} {P : Jvm.Cond → Bool} (h1 : L.all (fun c => isCode c || P c) = true) (h2 : ∀ c ∈ L.filter isCode, P c = true) : L.all P = true := by
  refine List.all_eq_true.mpr fun c hc => ?_
  have h := List.all_eq_true.mp h1 c hc
  rcases Bool.eq_false_or_eq_true (isCode c) with hi | hi
  · exact h2 c (List.mem_filter.mpr ⟨hc, hi⟩)
  · simpa [hi] using h
set_option maxRecDepth 65536 in
theorem w_c0 : (Jvm.Cond.code x code maxLocals ret).before args0 about1 = true := code_word (m := ⟨1, 1⟩) (meth := k1m1) (c := k1c1) (by decide +kernel) rfl rfl rfl (by decide +kernel)
set_option maxRecDepth 65536 in
theorem w_c1 : (Jvm.Cond.code ({ cls := "com/example/weaverbird/weaverbird/cppgen/FormAsElementPinLaw", name := "form", desc := "(I)Lcom/example/weaverbird/weaverbird/cppgen/CppType$Form;" } : Jvm.MethodName) method_3_code (1 : Nat) (Option.some (Jvm.ClassFile.FieldType.object "com/example/weaverbird/weaverbird/cppgen/CppType$Form"))).before args0 about1 = true := code_word (m := ⟨1, 2⟩) (meth := k1m2) (c := k1c2) (by decide +kernel) rfl rfl rfl (by decide +kernel)
set_option maxRecDepth 65536 in
theorem w_c2 : (Jvm.Cond.code ({ cls := "com/example/weaverbird/weaverbird/cppgen/CppType$Form", name := "asElement", desc := "()Lcom/example/weaverbird/weaverbird/cppgen/CppType$Form;" } : Jvm.MethodName) prog_12_method_8_code (1 : Nat) (Option.some (Jvm.ClassFile.FieldType.object "com/example/weaverbird/weaverbird/cppgen/CppType$Form"))).before args0 about1 = true := code_word (m := ⟨6, 0⟩) (meth := k6m0) (c := k6c0) (by decide +kernel) rfl rfl rfl (by decide +kernel)
def codes1 : List Jvm.Cond := [Jvm.Cond.code x code maxLocals ret, Jvm.Cond.code ({ cls := "com/example/weaverbird/weaverbird/cppgen/FormAsElementPinLaw", name := "form", desc := "(I)Lcom/example/weaverbird/weaverbird/cppgen/CppType$Form;" } : Jvm.MethodName) method_3_code (1 : Nat) (Option.some (Jvm.ClassFile.FieldType.object "com/example/weaverbird/weaverbird/cppgen/CppType$Form")), Jvm.Cond.code ({ cls := "com/example/weaverbird/weaverbird/cppgen/CppType$Form", name := "asElement", desc := "()Lcom/example/weaverbird/weaverbird/cppgen/CppType$Form;" } : Jvm.MethodName) prog_12_method_8_code (1 : Nat) (Option.some (Jvm.ClassFile.FieldType.object "com/example/weaverbird/weaverbird/cppgen/CppType$Form"))]
set_option maxRecDepth 65536 in
theorem codes_eq : words1.filter isCode = codes1 := rfl
theorem w_codes : ∀ c ∈ words1.filter isCode, c.before args0 about1 = true := by
  rw [codes_eq]
  intro c hc
  simp only [codes1, List.mem_cons, List.not_mem_nil, or_false] at hc
  rcases hc with rfl | rfl | rfl
  · exact w_c0
  · exact w_c1
  · exact w_c2
set_option maxRecDepth 65536 in
theorem w_t1 : (words1.take 24).all (fun c => isCode c || c.before args0 about1) = true := by decide +kernel
set_option maxRecDepth 65536 in
theorem w_t2 : (words1.drop 24).all (fun c => isCode c || c.before args0 about1) = true := by decide +kernel
theorem w_tables : (allAtoms (Jvm.Cond.code x code maxLocals ret :: tables_1)).before args0 about1 = true := by
  rw [allAtoms_all]
  show words1.all (fun c => c.before args0 about1) = true
  refine all_split ?_ w_codes
  rw [← List.take_append_drop 24 words1, List.all_append, w_t1, w_t2]
  rfl
set_option maxRecDepth 65536 in
theorem w_case : (Jvm.Cond.and given_1 narrow_1).before args0 about1 = true := by decide +kernel
theorem w_applies : (headSpec (Jvm.Cond.code x code maxLocals ret :: tables_1) room_1).applies x e0.platform about1 = true :=
  (Spec.applies_iff w_frames).mpr ⟨w_running, w_runnable, w_alone, w_named, w_hears, w_ripe, w_room, w_tables⟩
theorem atStart : AtStart classFile x code maxLocals ret World_1 tables_1 room_1 Calls_1 rest_1 Pre_1 launch0 p0 e0 about1 theMethod args0 below0 :=
  ⟨lists_1, trivial, launch0.admits_env _ _ _, launch0.least_env, fairChoices_fair.cas, fairChoices_fair.clock, w_frames, w_args, w_heap, w_applies, trivial, trivial, w_case⟩
end start1
theorem witness_1 : WitnessClaimed_1 := ⟨start1.p0, start1.e0, start1.about1, start1.theMethod, start1.args0, start1.below0, start1.atStart⟩
end Jvm.Pilot.@@N@@
