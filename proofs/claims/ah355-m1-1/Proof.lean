import JvmDerived
import JvmDerived.Pilot.@@N@@Statement
import JvmDerived.Pilot.@@N@@Code
set_option linter.unusedVariables false
set_option linter.unusedSimpArgs false
namespace Jvm.Pilot.@@N@@
open Jvm Jvm.ClassFile Sem Op Lib Jvm.Free Jvm.Stand Jvm.LawKit Jvm.RoadKit Bundle Jvm.Pilot.@@N@@.Jvm.D
/-- from the state U the run comes to the method's end, where Q holds of what it returns, of the heap and of the places written -/
def Dn (p : Program) (e : Env) (below : List Frame) (s : State) (k n : Nat) (Q : Option Value → Heap → List Loc → Prop) (U : State) : Prop :=
  ∃ t o, Steps p.tables e below U t ∧ t.status = .running ∧ Ended t below o ∧ ∃ v L, o = .returned v ∧ Q v t.heap L ∧ FrameEnd s o t L k n
theorem Dn.by {p : Program} {e : Env} {below : List Frame} {s : State} {k n : Nat} {Q : Option Value → Heap → List Loc → Prop} {U U' : State} (st : ∀ t, Steps p.tables e below U' t → Steps p.tables e below U t) (h : Dn p e below s k n Q U') : Dn p e below s k n Q U := by
  obtain ⟨t, o, h1, h2⟩ := h
  exact ⟨t, o, st t h1, h2⟩
theorem Dn.out {p : Program} {l : Launch} {e : Env} {R : Room} {s : State} {m : MethodId} {args : Array Value} {below : List Frame} {meth : Method} {c : Code} {T : State} {locs : List Loc} {cells slots k n : Nat} {Q : Option Value → Heap → List Loc → Prop} {U : State} (X : Stand p l e R s m args below meth c T locs cells slots) {v : Option Value} (hv : meth.sig.returnType = none → v = none) (hlk : meth.locks = false)
    (st : ∀ fs, (∀ (f : JFrame) (acts : List Action), f.method = m → f.locked = none → f.entered = [] → (doReturn e (T.setTop f) acts v).1 = T.setFrames fs) → Steps p.tables e below U (T.setFrames fs)) (hk : cells ≤ k) (hn : slots ≤ n) (hQ : Q v T.heap locs) : Dn p e below s k n Q U := by
  obtain ⟨fs, hr, hrun, hended, hW, hsame⟩ := X.leave (v := v) hv hlk
  exact ⟨_, _, st fs hr, hrun, hended, v, locs, rfl, hQ, ⟨_, rfl⟩, hW, hsame.mono hk hn⟩
theorem pn0 : plainName "com/example/weaverbird/weaverbird/model/RetryCounts" = true := by first | (simp [plainName, overriddenIn]; done) | decide +kernel
theorem pn1 : plainName "java/lang/Number" = true := by first | (simp [plainName, overriddenIn]; done) | decide +kernel
theorem pn2 : plainName "java/lang/Long" = true := by first | (simp [plainName, overriddenIn]; done) | decide +kernel
theorem pn3 : plainName "com/example/weaverbird/weaverbird/model/RetryCountsEqualsPinLaw" = true := by first | (simp [plainName, overriddenIn]; done) | decide +kernel
theorem pd0 : parseMethodDescriptor "()V" = some ⟨[], none⟩ := by decide +kernel
theorem pd1 : parseMethodDescriptor "(J)V" = some ⟨[.long], none⟩ := by decide +kernel
theorem pd2 : parseMethodDescriptor "(JJJJ)V" = some ⟨[.long, .long, .long, .long], none⟩ := by decide +kernel
theorem pd3 : parseMethodDescriptor "(Ljava/lang/Object;)Z" = some ⟨[(.object "java/lang/Object")], some .boolean⟩ := by decide +kernel
theorem pd4 : parseMethodDescriptor "(J)Ljava/lang/Long;" = some ⟨[.long], some (.object "java/lang/Long")⟩ := by decide +kernel
theorem d1_0 : decode prog_9_method_1_code 0 = .ok (.aload_n 0, 1) := by decide +kernel
theorem d1_1 : decode prog_9_method_1_code 1 = .ok (.invokespecial 1, 3) := by decide +kernel
theorem d1_4 : decode prog_9_method_1_code 4 = .ok (.aload_n 0, 1) := by decide +kernel
theorem d1_5 : decode prog_9_method_1_code 5 = .ok (.lload_n 1, 1) := by decide +kernel
theorem d1_6 : decode prog_9_method_1_code 6 = .ok (.putfield 7, 3) := by decide +kernel
theorem d1_9 : decode prog_9_method_1_code 9 = .ok (.aload_n 0, 1) := by decide +kernel
theorem d1_10 : decode prog_9_method_1_code 10 = .ok (.lload_n 3, 1) := by decide +kernel
theorem d1_11 : decode prog_9_method_1_code 11 = .ok (.putfield 13, 3) := by decide +kernel
theorem d1_14 : decode prog_9_method_1_code 14 = .ok (.aload_n 0, 1) := by decide +kernel
theorem d1_15 : decode prog_9_method_1_code 15 = .ok (.lload 5, 2) := by decide +kernel
theorem d1_17 : decode prog_9_method_1_code 17 = .ok (.putfield 16, 3) := by decide +kernel
theorem d1_20 : decode prog_9_method_1_code 20 = .ok (.aload_n 0, 1) := by decide +kernel
theorem d1_21 : decode prog_9_method_1_code 21 = .ok (.lload 7, 2) := by decide +kernel
theorem d1_23 : decode prog_9_method_1_code 23 = .ok (.putfield 19, 3) := by decide +kernel
theorem d1_26 : decode prog_9_method_1_code 26 = .ok (.return_, 1) := by decide +kernel
theorem d3_0 : decode prog_9_method_7_code 0 = .ok (.aload_n 1, 1) := by decide +kernel
theorem d3_1 : decode prog_9_method_7_code 1 = .ok (.instanceof 8, 3) := by decide +kernel
theorem d3_4 : decode prog_9_method_7_code 4 = .ok (.ifCond .eq 60, 3) := by decide +kernel
theorem d3_7 : decode prog_9_method_7_code 7 = .ok (.aload_n 1, 1) := by decide +kernel
theorem d3_8 : decode prog_9_method_7_code 8 = .ok (.checkcast 8, 3) := by decide +kernel
theorem d3_11 : decode prog_9_method_7_code 11 = .ok (.astore_n 2, 1) := by decide +kernel
theorem d3_12 : decode prog_9_method_7_code 12 = .ok (.aload_n 2, 1) := by decide +kernel
theorem d3_13 : decode prog_9_method_7_code 13 = .ok (.getfield 7, 3) := by decide +kernel
theorem d3_16 : decode prog_9_method_7_code 16 = .ok (.aload_n 0, 1) := by decide +kernel
theorem d3_17 : decode prog_9_method_7_code 17 = .ok (.getfield 7, 3) := by decide +kernel
theorem d3_20 : decode prog_9_method_7_code 20 = .ok (.lcmp, 1) := by decide +kernel
theorem d3_21 : decode prog_9_method_7_code 21 = .ok (.ifCond .ne 43, 3) := by decide +kernel
theorem d3_24 : decode prog_9_method_7_code 24 = .ok (.aload_n 2, 1) := by decide +kernel
theorem d3_25 : decode prog_9_method_7_code 25 = .ok (.getfield 13, 3) := by decide +kernel
theorem d3_28 : decode prog_9_method_7_code 28 = .ok (.aload_n 0, 1) := by decide +kernel
theorem d3_29 : decode prog_9_method_7_code 29 = .ok (.getfield 13, 3) := by decide +kernel
theorem d3_32 : decode prog_9_method_7_code 32 = .ok (.lcmp, 1) := by decide +kernel
theorem d3_33 : decode prog_9_method_7_code 33 = .ok (.ifCond .ne 31, 3) := by decide +kernel
theorem d3_36 : decode prog_9_method_7_code 36 = .ok (.aload_n 2, 1) := by decide +kernel
theorem d3_37 : decode prog_9_method_7_code 37 = .ok (.getfield 16, 3) := by decide +kernel
theorem d3_40 : decode prog_9_method_7_code 40 = .ok (.aload_n 0, 1) := by decide +kernel
theorem d3_41 : decode prog_9_method_7_code 41 = .ok (.getfield 16, 3) := by decide +kernel
theorem d3_44 : decode prog_9_method_7_code 44 = .ok (.lcmp, 1) := by decide +kernel
theorem d3_45 : decode prog_9_method_7_code 45 = .ok (.ifCond .ne 19, 3) := by decide +kernel
theorem d3_48 : decode prog_9_method_7_code 48 = .ok (.aload_n 2, 1) := by decide +kernel
theorem d3_49 : decode prog_9_method_7_code 49 = .ok (.getfield 19, 3) := by decide +kernel
theorem d3_52 : decode prog_9_method_7_code 52 = .ok (.aload_n 0, 1) := by decide +kernel
theorem d3_53 : decode prog_9_method_7_code 53 = .ok (.getfield 19, 3) := by decide +kernel
theorem d3_56 : decode prog_9_method_7_code 56 = .ok (.lcmp, 1) := by decide +kernel
theorem d3_57 : decode prog_9_method_7_code 57 = .ok (.ifCond .ne 7, 3) := by decide +kernel
theorem d3_60 : decode prog_9_method_7_code 60 = .ok (.iconst 1, 1) := by decide +kernel
theorem d3_61 : decode prog_9_method_7_code 61 = .ok (.goto 4, 3) := by decide +kernel
theorem d3_64 : decode prog_9_method_7_code 64 = .ok (.iconst 0, 1) := by decide +kernel
theorem d3_65 : decode prog_9_method_7_code 65 = .ok (.ireturn, 1) := by decide +kernel
theorem d4_0 : decode jdk_35_method_24_code 0 = .ok (.sipush 128, 3) := by decide +kernel
theorem d4_3 : decode jdk_35_method_24_code 3 = .ok (.istore_n 2, 1) := by decide +kernel
theorem d4_4 : decode jdk_35_method_24_code 4 = .ok (.lload_n 0, 1) := by decide +kernel
theorem d4_5 : decode jdk_35_method_24_code 5 = .ok (.ldc2_w 230, 3) := by decide +kernel
theorem d4_8 : decode jdk_35_method_24_code 8 = .ok (.lcmp, 1) := by decide +kernel
theorem d4_9 : decode jdk_35_method_24_code 9 = .ok (.ifCond .lt 22, 3) := by decide +kernel
theorem d4_12 : decode jdk_35_method_24_code 12 = .ok (.lload_n 0, 1) := by decide +kernel
theorem d4_13 : decode jdk_35_method_24_code 13 = .ok (.ldc2_w 232, 3) := by decide +kernel
theorem d4_16 : decode jdk_35_method_24_code 16 = .ok (.lcmp, 1) := by decide +kernel
theorem d4_17 : decode jdk_35_method_24_code 17 = .ok (.ifCond .gt 14, 3) := by decide +kernel
theorem d4_20 : decode jdk_35_method_24_code 20 = .ok (.getstatic 234, 3) := by decide +kernel
theorem d4_23 : decode jdk_35_method_24_code 23 = .ok (.lload_n 0, 1) := by decide +kernel
theorem d4_24 : decode jdk_35_method_24_code 24 = .ok (.l2i, 1) := by decide +kernel
theorem d4_25 : decode jdk_35_method_24_code 25 = .ok (.sipush 128, 3) := by decide +kernel
theorem d4_28 : decode jdk_35_method_24_code 28 = .ok (.iadd, 1) := by decide +kernel
theorem d4_29 : decode jdk_35_method_24_code 29 = .ok (.aaload, 1) := by decide +kernel
theorem d4_30 : decode jdk_35_method_24_code 30 = .ok (.areturn, 1) := by decide +kernel
theorem d4_31 : decode jdk_35_method_24_code 31 = .ok (.new 1, 3) := by decide +kernel
theorem d4_34 : decode jdk_35_method_24_code 34 = .ok (.dup, 1) := by decide +kernel
theorem d4_35 : decode jdk_35_method_24_code 35 = .ok (.lload_n 0, 1) := by decide +kernel
theorem d4_36 : decode jdk_35_method_24_code 36 = .ok (.invokespecial 240, 3) := by decide +kernel
theorem d4_39 : decode jdk_35_method_24_code 39 = .ok (.areturn, 1) := by decide +kernel
theorem d5_0 : decode jdk_35_method_26_code 0 = .ok (.aload_n 0, 1) := by decide +kernel
theorem d5_1 : decode jdk_35_method_26_code 1 = .ok (.invokespecial 270, 3) := by decide +kernel
theorem d5_4 : decode jdk_35_method_26_code 4 = .ok (.aload_n 0, 1) := by decide +kernel
theorem d5_5 : decode jdk_35_method_26_code 5 = .ok (.lload_n 1, 1) := by decide +kernel
theorem d5_6 : decode jdk_35_method_26_code 6 = .ok (.putfield 273, 3) := by decide +kernel
theorem d5_9 : decode jdk_35_method_26_code 9 = .ok (.return_, 1) := by decide +kernel
theorem d6_0 : decode jdk_18_method_1_code 0 = .ok (.aload_n 0, 1) := by decide +kernel
theorem d6_1 : decode jdk_18_method_1_code 1 = .ok (.invokespecial 1, 3) := by decide +kernel
theorem d6_4 : decode jdk_18_method_1_code 4 = .ok (.return_, 1) := by decide +kernel
theorem own_subt {Z : State} {args : Array Value} {j : Int32} (nn : ¬ j < 0) : (Jvm.Term.sub (Jvm.Term.index (0 : Nat)) (Jvm.Term.int (128 : Int32))).eval args Z none [j.toNatClampNeg] Z = some (.int (j - (128 : Int32))) := by
  have a : (Jvm.Term.index (0 : Nat)).eval args Z none [j.toNatClampNeg] Z = some (.int j) := idx_at nn
  have b : (Jvm.Term.int (128 : Int32)).eval args Z none [j.toNatClampNeg] Z = some (.int (128 : Int32)) := Term.int_eval _
  simp [Term.eval, a, b]
  exact (back32 nn).1
theorem own_root {Z : State} {a0 : Array Value} {O K : String} {n : Nat} (w : (Jvm.Cond.noSuperclass O).before a0 Z = true) (wi : (Jvm.Cond.instantiable K n).before a0 Z = true) (hn : O ≠ K) : NS Z O K := by
  obtain ⟨c, k, h1, h2, h3, -, -⟩ := Cond.noSuperclass_spec w
  obtain ⟨t, kt, g1, -⟩ := Cond.instantiable_spec wi
  have ne := ids_ne h1 g1 hn
  refine ⟨c, t, h1, g1, fun fuel => ?_⟩
  cases fuel with
  | zero => rfl
  | succ f => simp [Vm.isSubclassAux, ne, h2, h3]
theorem own_no {Z : State} {a0 : Array Value} {C S K : String} {n : Nat} (w : (Jvm.Cond.superclass C S).before a0 Z = true) (wi : (Jvm.Cond.instantiable K n).before a0 Z = true) (ns : NS Z C K) (hn : C ≠ K) : ∃ c t, Z.vm.findClass C = some c ∧ Z.vm.findClass K = some t ∧ Z.vm.assignable c t = false := by
  obtain ⟨c, t, h0, g0, n3⟩ := ns
  obtain ⟨p, k, kp, h1, h2, h3, h4, h5, -, h7⟩ := Cond.superclass_spec h0 w
  obtain ⟨t', kt, g1, g2, g3, g4, -⟩ := Cond.instantiable_spec wi
  cases g0.symm.trans g1
  have g7 : kt.isInterface = false := (Bool.or_eq_false_iff.mp g4).1
  have ne := ids_ne h0 g0 hn
  refine ⟨c, t, h0, g0, ?_⟩
  show Z.vm.assignableAux (255 + 1) c t = false
  simp [Vm.assignableAux, ne, h2, g2, h5, g3, g7, Vm.isSubclass, n3]
abbrev Rm1 : Room := { frames := 1, cells := 0, slots := 0, locals := 12 }
theorem ef_1 (m : MethodId) (o0 : Addr) (q1 : Int64) (q2 : Int64) (q3 : Int64) (q4 : Int64) : entryFrame m #[(.ref o0), (.long q1), (.long q2), (.long q3), (.long q4)] 9 = mkF m 0 #[.val (.ref o0), .val (.long q1), .second, .val (.long q2), .second, .val (.long q3), .second, .val (.long q4), .second] [] := by first | (simp [entryFrame, mkF, argsToLocals, Value.category]; done) | rfl
def Q1 (Z : State) (o0 : Addr) (q1 : Int64) (q2 : Int64) (q3 : Int64) (q4 : Int64) (u_retries_o0 : Value) (u_successes_o0 : Value) (u_exhausted_o0 : Value) (u_permanent_o0 : Value) (h0 : Heap) (n0 : Nat) (v : Option Value) (h : Heap) (L : List Loc) : Prop := v = none ∧ Fr n0 L ∧ Keep h0 h [o0] ∧ Exa Z h o0 "com/example/weaverbird/weaverbird/model/RetryCounts" ∧ Fld Z h o0 "com/example/weaverbird/weaverbird/model/RetryCounts" "retries" "J" (.long q1) ∧ Fld Z h o0 "com/example/weaverbird/weaverbird/model/RetryCounts" "successes" "J" (.long q2) ∧ Fld Z h o0 "com/example/weaverbird/weaverbird/model/RetryCounts" "exhausted" "J" (.long q3) ∧ Fld Z h o0 "com/example/weaverbird/weaverbird/model/RetryCounts" "permanent" "J" (.long q4)
set_option maxRecDepth 65536 in
set_option maxHeartbeats 40000000 in
theorem rm1 (l : Launch) (Z : State) (a0 : Array Value) (hw : ∀ d ∈ tables_1, d.before a0 Z = true) (ws : List Jvm.Cond) (o0 : Addr) (q1 : Int64) (q2 : Int64) (q3 : Int64) (q4 : Int64) (u_retries_o0 : Value) (u_successes_o0 : Value) (u_exhausted_o0 : Value) (u_permanent_o0 : Value) (h0 : Heap) (n0 : Nat) (Z0 : n0 ≤ h0.size) (g_o0 : n0 ≤ o0) (E_o0 : Exa Z h0 o0 "com/example/weaverbird/weaverbird/model/RetryCounts") (F_u_retries_o0 : Fld Z h0 o0 "com/example/weaverbird/weaverbird/model/RetryCounts" "retries" "J" u_retries_o0) (F_u_successes_o0 : Fld Z h0 o0 "com/example/weaverbird/weaverbird/model/RetryCounts" "successes" "J" u_successes_o0) (F_u_exhausted_o0 : Fld Z h0 o0 "com/example/weaverbird/weaverbird/model/RetryCounts" "exhausted" "J" u_exhausted_o0) (F_u_permanent_o0 : Fld Z h0 o0 "com/example/weaverbird/weaverbird/model/RetryCounts" "permanent" "J" u_permanent_o0) :
    MetFree l (⟨"com/example/weaverbird/weaverbird/model/RetryCounts", "<init>", "(JJJJ)V"⟩ : MethodName) (head1 (Jvm.Cond.code (⟨"com/example/weaverbird/weaverbird/model/RetryCounts", "<init>", "(JJJJ)V"⟩ : MethodName) prog_9_method_1_code 9 none :: ws) Rm1) (fun a U => a = #[(.ref o0), (.long q1), (.long q2), (.long q3), (.long q4)] ∧ Z.Warmed39 U.vm ∧ U.heap = h0) (fun _ _ _ _ _ => True) (fun _ U o U' => ∃ v L, o = .returned v ∧ Q1 Z o0 q1 q2 q3 q4 u_retries_o0 u_successes_o0 u_exhausted_o0 u_permanent_o0 h0 n0 v U'.heap L ∧ FrameEnd U o U' L Rm1.cells Rm1.slots) := by
  refine MetFree.of_bodySF (plainFor_of_name pn0) hisR ?_
  intro p e s m args below meth c s₁ Bd hml0 hP hK
  obtain ⟨rfl, hZ, hh⟩ := hP
  have hx := Bd.exec
  have hby := Bd.bytes
  have hml : c.maxLocals = 9 := hml0
  have hown : s.vm.findClass "com/example/weaverbird/weaverbird/model/RetryCounts" = some m.cls := findClass_of_methodNamed Bd.named
  have hnm := (name_of_methodNamed Bd.named Bd.method).1
  have X0 : Stand p l e Rm1 s m #[(.ref o0), (.long q1), (.long q2), (.long q3), (.long q4)] below meth c s₁ [] 0 0 := Stand.of_body Bd
  have e0 : s₁.heap = h0 := by rw [← hh, Bd.state]; rfl
  have N0 := Fr.nil n0
  show Dn p e below s Rm1.cells Rm1.slots (Q1 Z o0 q1 q2 q3 q4 u_retries_o0 u_successes_o0 u_exhausted_o0 u_permanent_o0 h0 n0) (s₁.setTop (entryFrame m #[(.ref o0), (.long q1), (.long q2), (.long q3), (.long q4)] 9))
  rw [ef_1]
  refine Dn.by (U' := s₁.setTop (mkF m 1 #[.val (.ref o0), .val (.long q1), .second, .val (.long q2), .second, .val (.long q3), .second, .val (.long q4), .second] [(.ref o0)])) (fun _ ks => XS.aloadN X0.here hx rfl (hb hby d1_0) rfl rfl ks) ?_
  obtain ⟨T1, X1, e1, st1⟩ := initO X0 hx hZ hown (hw _ (List.mem_of_getElem? (i := 6) rfl)) (hw _ (List.mem_of_getElem? (i := 7) rfl)) (hw _ (List.mem_of_getElem? (i := 8) rfl)) e0 (g := (mkF m 1 #[.val (.ref o0), .val (.long q1), .second, .val (.long q2), .second, .val (.long q3), .second, .val (.long q4), .second] [(.ref o0)])) rfl (by rw [hml]; rfl) rfl (hb hby d1_1) (by decide) (W := 0) (by show 2 * 0 + _ ≤ _; exact Nat.le_of_eq rfl) (by decide)
  refine Dn.by (U' := T1.setTop (mkF m 4 #[.val (.ref o0), .val (.long q1), .second, .val (.long q2), .second, .val (.long q3), .second, .val (.long q4), .second] [])) st1 ?_
  refine Dn.by (U' := T1.setTop (mkF m 5 #[.val (.ref o0), .val (.long q1), .second, .val (.long q2), .second, .val (.long q3), .second, .val (.long q4), .second] [(.ref o0)])) (fun _ ks => XS.aloadN X1.here hx rfl (hb hby d1_4) rfl rfl ks) ?_
  refine Dn.by (U' := T1.setTop (mkF m 6 #[.val (.ref o0), .val (.long q1), .second, .val (.long q2), .second, .val (.long q3), .second, .val (.long q4), .second] [(.long q1), (.ref o0)])) (fun _ ks => XS.lloadN X1.here hx rfl (hb hby d1_5) rfl ks) ?_
  obtain ⟨T2, h2, X2, e2, W2, st2⟩ := putF X1 hx hZ hown (host := "") (Or.inl (hw _ (List.mem_of_getElem? (i := 9) rfl))) Via.refl e1 F_u_retries_o0 E_o0 (Or.inr ⟨(hw _ (List.mem_of_getElem? (i := 10) rfl)), rfl, hnm⟩) (hw _ (List.mem_of_getElem? (i := 1) rfl)) (ty := .long) (by decide) rfl rfl (g := (mkF m 6 #[.val (.ref o0), .val (.long q1), .second, .val (.long q2), .second, .val (.long q3), .second, .val (.long q4), .second] [(.long q1), (.ref o0)])) rfl rfl (hb hby d1_6)
  have F2 := F_u_retries_o0.same W2
  have K3 : Keep h0 h2 [o0] := ((Keep.refl h0 [o0]).wr W2 (Or.inl (List.mem_of_getElem? (i := 0) rfl)))
  have z3 : n0 ≤ h2.size := (Nat.le_trans Z0 (Keep.of_wr W2).1)
  have N2 := Fr.snoc X2 N0 g_o0
  refine Dn.by (U' := T2.setTop (mkF m 9 #[.val (.ref o0), .val (.long q1), .second, .val (.long q2), .second, .val (.long q3), .second, .val (.long q4), .second] [])) st2 ?_
  refine Dn.by (U' := T2.setTop (mkF m 10 #[.val (.ref o0), .val (.long q1), .second, .val (.long q2), .second, .val (.long q3), .second, .val (.long q4), .second] [(.ref o0)])) (fun _ ks => XS.aloadN X2.here hx rfl (hb hby d1_9) rfl rfl ks) ?_
  refine Dn.by (U' := T2.setTop (mkF m 11 #[.val (.ref o0), .val (.long q1), .second, .val (.long q2), .second, .val (.long q3), .second, .val (.long q4), .second] [(.long q2), (.ref o0)])) (fun _ ks => XS.lloadN X2.here hx rfl (hb hby d1_10) rfl ks) ?_
  obtain ⟨T4, h4, X4, e4, W4, st4⟩ := putF X2 hx hZ hown (host := "") (Or.inl (hw _ (List.mem_of_getElem? (i := 11) rfl))) Via.refl e2 (F_u_successes_o0.other W2 (Or.inr (slot_ne (Or.inr (hw _ (List.mem_of_getElem? (i := 12) rfl))) (Or.inr (hw _ (List.mem_of_getElem? (i := 10) rfl))) (by decide) (t := .long) (t' := .long) (by decide) (by decide)))) (E_o0.wr W2) (Or.inr ⟨(hw _ (List.mem_of_getElem? (i := 12) rfl)), rfl, hnm⟩) (hw _ (List.mem_of_getElem? (i := 1) rfl)) (ty := .long) (by decide) rfl rfl (g := (mkF m 11 #[.val (.ref o0), .val (.long q1), .second, .val (.long q2), .second, .val (.long q3), .second, .val (.long q4), .second] [(.long q2), (.ref o0)])) rfl rfl (hb hby d1_11)
  have F4 := (F_u_successes_o0.other W2 (Or.inr (slot_ne (Or.inr (hw _ (List.mem_of_getElem? (i := 12) rfl))) (Or.inr (hw _ (List.mem_of_getElem? (i := 10) rfl))) (by decide) (t := .long) (t' := .long) (by decide) (by decide)))).same W4
  have K5 : Keep h0 h4 [o0] := (K3.wr W4 (Or.inl (List.mem_of_getElem? (i := 0) rfl)))
  have z5 : n0 ≤ h4.size := (Nat.le_trans z3 (Keep.of_wr W4).1)
  have N4 := Fr.snoc X4 N2 g_o0
  refine Dn.by (U' := T4.setTop (mkF m 14 #[.val (.ref o0), .val (.long q1), .second, .val (.long q2), .second, .val (.long q3), .second, .val (.long q4), .second] [])) st4 ?_
  refine Dn.by (U' := T4.setTop (mkF m 15 #[.val (.ref o0), .val (.long q1), .second, .val (.long q2), .second, .val (.long q3), .second, .val (.long q4), .second] [(.ref o0)])) (fun _ ks => XS.aloadN X4.here hx rfl (hb hby d1_14) rfl rfl ks) ?_
  refine Dn.by (U' := T4.setTop (mkF m 17 #[.val (.ref o0), .val (.long q1), .second, .val (.long q2), .second, .val (.long q3), .second, .val (.long q4), .second] [(.long q3), (.ref o0)])) (fun _ ks => XS.lload X4.here hx rfl (hb hby d1_15) rfl ks) ?_
  obtain ⟨T6, h6, X6, e6, W6, st6⟩ := putF X4 hx hZ hown (host := "") (Or.inl (hw _ (List.mem_of_getElem? (i := 13) rfl))) Via.refl e4 ((F_u_exhausted_o0.other W2 (Or.inr (slot_ne (Or.inr (hw _ (List.mem_of_getElem? (i := 14) rfl))) (Or.inr (hw _ (List.mem_of_getElem? (i := 10) rfl))) (by decide) (t := .long) (t' := .long) (by decide) (by decide)))).other W4 (Or.inr (slot_ne (Or.inr (hw _ (List.mem_of_getElem? (i := 14) rfl))) (Or.inr (hw _ (List.mem_of_getElem? (i := 12) rfl))) (by decide) (t := .long) (t' := .long) (by decide) (by decide)))) ((E_o0.wr W2).wr W4) (Or.inr ⟨(hw _ (List.mem_of_getElem? (i := 14) rfl)), rfl, hnm⟩) (hw _ (List.mem_of_getElem? (i := 1) rfl)) (ty := .long) (by decide) rfl rfl (g := (mkF m 17 #[.val (.ref o0), .val (.long q1), .second, .val (.long q2), .second, .val (.long q3), .second, .val (.long q4), .second] [(.long q3), (.ref o0)])) rfl rfl (hb hby d1_17)
  have F6 := ((F_u_exhausted_o0.other W2 (Or.inr (slot_ne (Or.inr (hw _ (List.mem_of_getElem? (i := 14) rfl))) (Or.inr (hw _ (List.mem_of_getElem? (i := 10) rfl))) (by decide) (t := .long) (t' := .long) (by decide) (by decide)))).other W4 (Or.inr (slot_ne (Or.inr (hw _ (List.mem_of_getElem? (i := 14) rfl))) (Or.inr (hw _ (List.mem_of_getElem? (i := 12) rfl))) (by decide) (t := .long) (t' := .long) (by decide) (by decide)))).same W6
  have K7 : Keep h0 h6 [o0] := (K5.wr W6 (Or.inl (List.mem_of_getElem? (i := 0) rfl)))
  have z7 : n0 ≤ h6.size := (Nat.le_trans z5 (Keep.of_wr W6).1)
  have N6 := Fr.snoc X6 N4 g_o0
  refine Dn.by (U' := T6.setTop (mkF m 20 #[.val (.ref o0), .val (.long q1), .second, .val (.long q2), .second, .val (.long q3), .second, .val (.long q4), .second] [])) st6 ?_
  refine Dn.by (U' := T6.setTop (mkF m 21 #[.val (.ref o0), .val (.long q1), .second, .val (.long q2), .second, .val (.long q3), .second, .val (.long q4), .second] [(.ref o0)])) (fun _ ks => XS.aloadN X6.here hx rfl (hb hby d1_20) rfl rfl ks) ?_
  refine Dn.by (U' := T6.setTop (mkF m 23 #[.val (.ref o0), .val (.long q1), .second, .val (.long q2), .second, .val (.long q3), .second, .val (.long q4), .second] [(.long q4), (.ref o0)])) (fun _ ks => XS.lload X6.here hx rfl (hb hby d1_21) rfl ks) ?_
  obtain ⟨T8, h8, X8, e8, W8, st8⟩ := putF X6 hx hZ hown (host := "") (Or.inl (hw _ (List.mem_of_getElem? (i := 15) rfl))) Via.refl e6 (((F_u_permanent_o0.other W2 (Or.inr (slot_ne (Or.inr (hw _ (List.mem_of_getElem? (i := 16) rfl))) (Or.inr (hw _ (List.mem_of_getElem? (i := 10) rfl))) (by decide) (t := .long) (t' := .long) (by decide) (by decide)))).other W4 (Or.inr (slot_ne (Or.inr (hw _ (List.mem_of_getElem? (i := 16) rfl))) (Or.inr (hw _ (List.mem_of_getElem? (i := 12) rfl))) (by decide) (t := .long) (t' := .long) (by decide) (by decide)))).other W6 (Or.inr (slot_ne (Or.inr (hw _ (List.mem_of_getElem? (i := 16) rfl))) (Or.inr (hw _ (List.mem_of_getElem? (i := 14) rfl))) (by decide) (t := .long) (t' := .long) (by decide) (by decide)))) (((E_o0.wr W2).wr W4).wr W6) (Or.inr ⟨(hw _ (List.mem_of_getElem? (i := 16) rfl)), rfl, hnm⟩) (hw _ (List.mem_of_getElem? (i := 1) rfl)) (ty := .long) (by decide) rfl rfl (g := (mkF m 23 #[.val (.ref o0), .val (.long q1), .second, .val (.long q2), .second, .val (.long q3), .second, .val (.long q4), .second] [(.long q4), (.ref o0)])) rfl rfl (hb hby d1_23)
  have F8 := (((F_u_permanent_o0.other W2 (Or.inr (slot_ne (Or.inr (hw _ (List.mem_of_getElem? (i := 16) rfl))) (Or.inr (hw _ (List.mem_of_getElem? (i := 10) rfl))) (by decide) (t := .long) (t' := .long) (by decide) (by decide)))).other W4 (Or.inr (slot_ne (Or.inr (hw _ (List.mem_of_getElem? (i := 16) rfl))) (Or.inr (hw _ (List.mem_of_getElem? (i := 12) rfl))) (by decide) (t := .long) (t' := .long) (by decide) (by decide)))).other W6 (Or.inr (slot_ne (Or.inr (hw _ (List.mem_of_getElem? (i := 16) rfl))) (Or.inr (hw _ (List.mem_of_getElem? (i := 14) rfl))) (by decide) (t := .long) (t' := .long) (by decide) (by decide)))).same W8
  have K9 : Keep h0 h8 [o0] := (K7.wr W8 (Or.inl (List.mem_of_getElem? (i := 0) rfl)))
  have z9 : n0 ≤ h8.size := (Nat.le_trans z7 (Keep.of_wr W8).1)
  have N8 := Fr.snoc X8 N6 g_o0
  refine Dn.by (U' := T8.setTop (mkF m 26 #[.val (.ref o0), .val (.long q1), .second, .val (.long q2), .second, .val (.long q3), .second, .val (.long q4), .second] [])) st8 ?_
  refine Dn.out X8 (v := none) (fun _ => rfl) (BodyLoose.notSynchronized Bd) (fun _ hr => X8.returnOut hx Bd.returns (hb hby d1_26) hr) (by decide) (by decide) ?_
  rw [e8]
  exact ⟨rfl, N8, K9, ((((E_o0.wr W2).wr W4).wr W6).wr W8), (((F2.other W4 (Or.inr (slot_ne (Or.inr (hw _ (List.mem_of_getElem? (i := 10) rfl))) (Or.inr (hw _ (List.mem_of_getElem? (i := 12) rfl))) (by decide) (t := .long) (t' := .long) (by decide) (by decide)))).other W6 (Or.inr (slot_ne (Or.inr (hw _ (List.mem_of_getElem? (i := 10) rfl))) (Or.inr (hw _ (List.mem_of_getElem? (i := 14) rfl))) (by decide) (t := .long) (t' := .long) (by decide) (by decide)))).other W8 (Or.inr (slot_ne (Or.inr (hw _ (List.mem_of_getElem? (i := 10) rfl))) (Or.inr (hw _ (List.mem_of_getElem? (i := 16) rfl))) (by decide) (t := .long) (t' := .long) (by decide) (by decide)))), ((F4.other W6 (Or.inr (slot_ne (Or.inr (hw _ (List.mem_of_getElem? (i := 12) rfl))) (Or.inr (hw _ (List.mem_of_getElem? (i := 14) rfl))) (by decide) (t := .long) (t' := .long) (by decide) (by decide)))).other W8 (Or.inr (slot_ne (Or.inr (hw _ (List.mem_of_getElem? (i := 12) rfl))) (Or.inr (hw _ (List.mem_of_getElem? (i := 16) rfl))) (by decide) (t := .long) (t' := .long) (by decide) (by decide)))), (F6.other W8 (Or.inr (slot_ne (Or.inr (hw _ (List.mem_of_getElem? (i := 14) rfl))) (Or.inr (hw _ (List.mem_of_getElem? (i := 16) rfl))) (by decide) (t := .long) (t' := .long) (by decide) (by decide)))), F8⟩
def eqC (o0 : Addr) (o1 : Addr) (u_retries_o0 : Int64) (u_successes_o0 : Int64) (u_exhausted_o0 : Int64) (u_permanent_o0 : Int64) (u_retries_o1 : Int64) (u_successes_o1 : Int64) (u_exhausted_o1 : Int64) (u_permanent_o1 : Int64) : Int32 := (if u_retries_o1 = u_retries_o0 then (if u_successes_o1 = u_successes_o0 then (if u_exhausted_o1 = u_exhausted_o0 then (if u_permanent_o1 = u_permanent_o0 then (1 : Int32) else (0 : Int32)) else (0 : Int32)) else (0 : Int32)) else (0 : Int32))
abbrev Rm3 : Room := { frames := 0, cells := 0, slots := 0, locals := 0 }
theorem ef_3 (m : MethodId) (o0 : Addr) (o1 : Addr) : entryFrame m #[(.ref o0), (.ref o1)] 3 = mkF m 0 #[.val (.ref o0), .val (.ref o1), .unset] [] := by first | (simp [entryFrame, mkF, argsToLocals, Value.category]; done) | rfl
def Q3 (Z : State) (o0 : Addr) (o1 : Addr) (u_retries_o0 : Int64) (u_successes_o0 : Int64) (u_exhausted_o0 : Int64) (u_permanent_o0 : Int64) (u_retries_o1 : Int64) (u_successes_o1 : Int64) (u_exhausted_o1 : Int64) (u_permanent_o1 : Int64) (h0 : Heap) (n0 : Nat) (v : Option Value) (h : Heap) (L : List Loc) : Prop := v = some (.int (eqC o0 o1 u_retries_o0 u_successes_o0 u_exhausted_o0 u_permanent_o0 u_retries_o1 u_successes_o1 u_exhausted_o1 u_permanent_o1)) ∧ Fr n0 L ∧ h = h0
set_option maxRecDepth 65536 in
set_option maxHeartbeats 40000000 in
theorem rm3 (l : Launch) (Z : State) (a0 : Array Value) (hw : ∀ d ∈ tables_1, d.before a0 Z = true) (ws : List Jvm.Cond) (o0 : Addr) (o1 : Addr) (u_retries_o0 : Int64) (u_successes_o0 : Int64) (u_exhausted_o0 : Int64) (u_permanent_o0 : Int64) (u_retries_o1 : Int64) (u_successes_o1 : Int64) (u_exhausted_o1 : Int64) (u_permanent_o1 : Int64) (h0 : Heap) (n0 : Nat) (Z0 : n0 ≤ h0.size) (F_u_retries_o0 : Fld Z h0 o0 "com/example/weaverbird/weaverbird/model/RetryCounts" "retries" "J" (.long u_retries_o0)) (F_u_successes_o0 : Fld Z h0 o0 "com/example/weaverbird/weaverbird/model/RetryCounts" "successes" "J" (.long u_successes_o0)) (F_u_exhausted_o0 : Fld Z h0 o0 "com/example/weaverbird/weaverbird/model/RetryCounts" "exhausted" "J" (.long u_exhausted_o0)) (F_u_permanent_o0 : Fld Z h0 o0 "com/example/weaverbird/weaverbird/model/RetryCounts" "permanent" "J" (.long u_permanent_o0)) (F_u_retries_o1 : Fld Z h0 o1 "com/example/weaverbird/weaverbird/model/RetryCounts" "retries" "J" (.long u_retries_o1)) (F_u_successes_o1 : Fld Z h0 o1 "com/example/weaverbird/weaverbird/model/RetryCounts" "successes" "J" (.long u_successes_o1)) (F_u_exhausted_o1 : Fld Z h0 o1 "com/example/weaverbird/weaverbird/model/RetryCounts" "exhausted" "J" (.long u_exhausted_o1)) (F_u_permanent_o1 : Fld Z h0 o1 "com/example/weaverbird/weaverbird/model/RetryCounts" "permanent" "J" (.long u_permanent_o1)) (E_o1 : Exa Z h0 o1 "com/example/weaverbird/weaverbird/model/RetryCounts") :
    MetFree l (⟨"com/example/weaverbird/weaverbird/model/RetryCounts", "equals", "(Ljava/lang/Object;)Z"⟩ : MethodName) (head1 (Jvm.Cond.code (⟨"com/example/weaverbird/weaverbird/model/RetryCounts", "equals", "(Ljava/lang/Object;)Z"⟩ : MethodName) prog_9_method_7_code 3 (some .boolean) :: ws) Rm3) (fun a U => a = #[(.ref o0), (.ref o1)] ∧ Z.Warmed39 U.vm ∧ U.heap = h0) (fun _ _ _ _ _ => True) (fun _ U o U' => ∃ v L, o = .returned v ∧ Q3 Z o0 o1 u_retries_o0 u_successes_o0 u_exhausted_o0 u_permanent_o0 u_retries_o1 u_successes_o1 u_exhausted_o1 u_permanent_o1 h0 n0 v U'.heap L ∧ FrameEnd U o U' L Rm3.cells Rm3.slots) := by
  refine MetFree.of_bodySF (plainFor_of_name pn0) hisR ?_
  intro p e s m args below meth c s₁ Bd hml0 hP hK
  obtain ⟨rfl, hZ, hh⟩ := hP
  have hx := Bd.exec
  have hby := Bd.bytes
  have hml : c.maxLocals = 3 := hml0
  have hown : s.vm.findClass "com/example/weaverbird/weaverbird/model/RetryCounts" = some m.cls := findClass_of_methodNamed Bd.named
  have hnm := (name_of_methodNamed Bd.named Bd.method).1
  have X0 : Stand p l e Rm3 s m #[(.ref o0), (.ref o1)] below meth c s₁ [] 0 0 := Stand.of_body Bd
  have e0 : s₁.heap = h0 := by rw [← hh, Bd.state]; rfl
  have N0 := Fr.nil n0
  show Dn p e below s Rm3.cells Rm3.slots (Q3 Z o0 o1 u_retries_o0 u_successes_o0 u_exhausted_o0 u_permanent_o0 u_retries_o1 u_successes_o1 u_exhausted_o1 u_permanent_o1 h0 n0) (s₁.setTop (entryFrame m #[(.ref o0), (.ref o1)] 3))
  rw [ef_3]
  refine Dn.by (U' := s₁.setTop (mkF m 1 #[.val (.ref o0), .val (.ref o1), .unset] [(.ref o1)])) (fun _ ks => XS.aloadN X0.here hx rfl (hb hby d3_0) rfl rfl ks) ?_
  obtain ⟨T1, X1, e1, st1⟩ := instY X0 hx hZ hown (hw _ (List.mem_of_getElem? (i := 22) rfl)) e0 (Ins.self E_o1) (g := (mkF m 1 #[.val (.ref o0), .val (.ref o1), .unset] [(.ref o1)])) rfl rfl (hb hby d3_1)
  refine Dn.by (U' := T1.setTop (mkF m 4 #[.val (.ref o0), .val (.ref o1), .unset] [(.int (1 : Int32))])) st1 ?_
  refine Dn.by (U' := T1.setTop (mkF m 7 #[.val (.ref o0), .val (.ref o1), .unset] [])) (fun _ ks => XS.ifNo X1.here hx rfl (hb hby d3_4) rfl (by decide) ks) ?_
  refine Dn.by (U' := T1.setTop (mkF m 8 #[.val (.ref o0), .val (.ref o1), .unset] [(.ref o1)])) (fun _ ks => XS.aloadN X1.here hx rfl (hb hby d3_7) rfl rfl ks) ?_
  obtain ⟨T2, X2, e2, st2⟩ := castY X1 hx hZ hown (hw _ (List.mem_of_getElem? (i := 22) rfl)) e1 (Ins.self E_o1) (g := (mkF m 8 #[.val (.ref o0), .val (.ref o1), .unset] [(.ref o1)])) rfl rfl (hb hby d3_8)
  refine Dn.by (U' := T2.setTop (mkF m 11 #[.val (.ref o0), .val (.ref o1), .unset] [(.ref o1)])) st2 ?_
  refine Dn.by (U' := T2.setTop (mkF m 12 #[.val (.ref o0), .val (.ref o1), .val (.ref o1)] [])) (fun _ ks => XS.astoreN X2.here hx rfl (hb hby d3_11) rfl rfl (l' := #[.val (.ref o0), .val (.ref o1), .val (.ref o1)]) rfl ks) ?_
  refine Dn.by (U' := T2.setTop (mkF m 13 #[.val (.ref o0), .val (.ref o1), .val (.ref o1)] [(.ref o1)])) (fun _ ks => XS.aloadN X2.here hx rfl (hb hby d3_12) rfl rfl ks) ?_
  obtain ⟨T3, X3, e3, st3⟩ := getF X2 hx hZ hown (host := "") (Or.inl (hw _ (List.mem_of_getElem? (i := 9) rfl))) Via.refl e2 F_u_retries_o1 (g := (mkF m 13 #[.val (.ref o0), .val (.ref o1), .val (.ref o1)] [(.ref o1)])) rfl rfl (hb hby d3_13)
  refine Dn.by (U' := T3.setTop (mkF m 16 #[.val (.ref o0), .val (.ref o1), .val (.ref o1)] [(.long u_retries_o1)])) st3 ?_
  refine Dn.by (U' := T3.setTop (mkF m 17 #[.val (.ref o0), .val (.ref o1), .val (.ref o1)] [(.ref o0), (.long u_retries_o1)])) (fun _ ks => XS.aloadN X3.here hx rfl (hb hby d3_16) rfl rfl ks) ?_
  obtain ⟨T4, X4, e4, st4⟩ := getF X3 hx hZ hown (host := "") (Or.inl (hw _ (List.mem_of_getElem? (i := 9) rfl))) Via.refl e3 F_u_retries_o0 (g := (mkF m 17 #[.val (.ref o0), .val (.ref o1), .val (.ref o1)] [(.ref o0), (.long u_retries_o1)])) rfl rfl (hb hby d3_17)
  refine Dn.by (U' := T4.setTop (mkF m 20 #[.val (.ref o0), .val (.ref o1), .val (.ref o1)] [(.long u_retries_o0), (.long u_retries_o1)])) st4 ?_
  refine Dn.by (U' := T4.setTop (mkF m 21 #[.val (.ref o0), .val (.ref o1), .val (.ref o1)] [(.int (lcmpW u_retries_o1 u_retries_o0))])) (fun _ ks => XS.lcmp X4.here hx rfl (hb hby d3_20) rfl ks) ?_
  by_cases c21_5 : u_retries_o1 = u_retries_o0
  ·
    refine Dn.by (U' := T4.setTop (mkF m 24 #[.val (.ref o0), .val (.ref o1), .val (.ref o1)] [])) (fun _ ks => XS.ifNo X4.here hx rfl (hb hby d3_21) rfl ((if0 _ _).trans (teq ((lw_eq _ _).mpr c21_5)).2) ks) ?_
    refine Dn.by (U' := T4.setTop (mkF m 25 #[.val (.ref o0), .val (.ref o1), .val (.ref o1)] [(.ref o1)])) (fun _ ks => XS.aloadN X4.here hx rfl (hb hby d3_24) rfl rfl ks) ?_
    obtain ⟨T6, X6, e6, st6⟩ := getF X4 hx hZ hown (host := "") (Or.inl (hw _ (List.mem_of_getElem? (i := 11) rfl))) Via.refl e4 F_u_successes_o1 (g := (mkF m 25 #[.val (.ref o0), .val (.ref o1), .val (.ref o1)] [(.ref o1)])) rfl rfl (hb hby d3_25)
    refine Dn.by (U' := T6.setTop (mkF m 28 #[.val (.ref o0), .val (.ref o1), .val (.ref o1)] [(.long u_successes_o1)])) st6 ?_
    refine Dn.by (U' := T6.setTop (mkF m 29 #[.val (.ref o0), .val (.ref o1), .val (.ref o1)] [(.ref o0), (.long u_successes_o1)])) (fun _ ks => XS.aloadN X6.here hx rfl (hb hby d3_28) rfl rfl ks) ?_
    obtain ⟨T7, X7, e7, st7⟩ := getF X6 hx hZ hown (host := "") (Or.inl (hw _ (List.mem_of_getElem? (i := 11) rfl))) Via.refl e6 F_u_successes_o0 (g := (mkF m 29 #[.val (.ref o0), .val (.ref o1), .val (.ref o1)] [(.ref o0), (.long u_successes_o1)])) rfl rfl (hb hby d3_29)
    refine Dn.by (U' := T7.setTop (mkF m 32 #[.val (.ref o0), .val (.ref o1), .val (.ref o1)] [(.long u_successes_o0), (.long u_successes_o1)])) st7 ?_
    refine Dn.by (U' := T7.setTop (mkF m 33 #[.val (.ref o0), .val (.ref o1), .val (.ref o1)] [(.int (lcmpW u_successes_o1 u_successes_o0))])) (fun _ ks => XS.lcmp X7.here hx rfl (hb hby d3_32) rfl ks) ?_
    by_cases c33_8 : u_successes_o1 = u_successes_o0
    ·
      refine Dn.by (U' := T7.setTop (mkF m 36 #[.val (.ref o0), .val (.ref o1), .val (.ref o1)] [])) (fun _ ks => XS.ifNo X7.here hx rfl (hb hby d3_33) rfl ((if0 _ _).trans (teq ((lw_eq _ _).mpr c33_8)).2) ks) ?_
      refine Dn.by (U' := T7.setTop (mkF m 37 #[.val (.ref o0), .val (.ref o1), .val (.ref o1)] [(.ref o1)])) (fun _ ks => XS.aloadN X7.here hx rfl (hb hby d3_36) rfl rfl ks) ?_
      obtain ⟨T9, X9, e9, st9⟩ := getF X7 hx hZ hown (host := "") (Or.inl (hw _ (List.mem_of_getElem? (i := 13) rfl))) Via.refl e7 F_u_exhausted_o1 (g := (mkF m 37 #[.val (.ref o0), .val (.ref o1), .val (.ref o1)] [(.ref o1)])) rfl rfl (hb hby d3_37)
      refine Dn.by (U' := T9.setTop (mkF m 40 #[.val (.ref o0), .val (.ref o1), .val (.ref o1)] [(.long u_exhausted_o1)])) st9 ?_
      refine Dn.by (U' := T9.setTop (mkF m 41 #[.val (.ref o0), .val (.ref o1), .val (.ref o1)] [(.ref o0), (.long u_exhausted_o1)])) (fun _ ks => XS.aloadN X9.here hx rfl (hb hby d3_40) rfl rfl ks) ?_
      obtain ⟨T10, X10, e10, st10⟩ := getF X9 hx hZ hown (host := "") (Or.inl (hw _ (List.mem_of_getElem? (i := 13) rfl))) Via.refl e9 F_u_exhausted_o0 (g := (mkF m 41 #[.val (.ref o0), .val (.ref o1), .val (.ref o1)] [(.ref o0), (.long u_exhausted_o1)])) rfl rfl (hb hby d3_41)
      refine Dn.by (U' := T10.setTop (mkF m 44 #[.val (.ref o0), .val (.ref o1), .val (.ref o1)] [(.long u_exhausted_o0), (.long u_exhausted_o1)])) st10 ?_
      refine Dn.by (U' := T10.setTop (mkF m 45 #[.val (.ref o0), .val (.ref o1), .val (.ref o1)] [(.int (lcmpW u_exhausted_o1 u_exhausted_o0))])) (fun _ ks => XS.lcmp X10.here hx rfl (hb hby d3_44) rfl ks) ?_
      by_cases c45_11 : u_exhausted_o1 = u_exhausted_o0
      ·
        refine Dn.by (U' := T10.setTop (mkF m 48 #[.val (.ref o0), .val (.ref o1), .val (.ref o1)] [])) (fun _ ks => XS.ifNo X10.here hx rfl (hb hby d3_45) rfl ((if0 _ _).trans (teq ((lw_eq _ _).mpr c45_11)).2) ks) ?_
        refine Dn.by (U' := T10.setTop (mkF m 49 #[.val (.ref o0), .val (.ref o1), .val (.ref o1)] [(.ref o1)])) (fun _ ks => XS.aloadN X10.here hx rfl (hb hby d3_48) rfl rfl ks) ?_
        obtain ⟨T12, X12, e12, st12⟩ := getF X10 hx hZ hown (host := "") (Or.inl (hw _ (List.mem_of_getElem? (i := 15) rfl))) Via.refl e10 F_u_permanent_o1 (g := (mkF m 49 #[.val (.ref o0), .val (.ref o1), .val (.ref o1)] [(.ref o1)])) rfl rfl (hb hby d3_49)
        refine Dn.by (U' := T12.setTop (mkF m 52 #[.val (.ref o0), .val (.ref o1), .val (.ref o1)] [(.long u_permanent_o1)])) st12 ?_
        refine Dn.by (U' := T12.setTop (mkF m 53 #[.val (.ref o0), .val (.ref o1), .val (.ref o1)] [(.ref o0), (.long u_permanent_o1)])) (fun _ ks => XS.aloadN X12.here hx rfl (hb hby d3_52) rfl rfl ks) ?_
        obtain ⟨T13, X13, e13, st13⟩ := getF X12 hx hZ hown (host := "") (Or.inl (hw _ (List.mem_of_getElem? (i := 15) rfl))) Via.refl e12 F_u_permanent_o0 (g := (mkF m 53 #[.val (.ref o0), .val (.ref o1), .val (.ref o1)] [(.ref o0), (.long u_permanent_o1)])) rfl rfl (hb hby d3_53)
        refine Dn.by (U' := T13.setTop (mkF m 56 #[.val (.ref o0), .val (.ref o1), .val (.ref o1)] [(.long u_permanent_o0), (.long u_permanent_o1)])) st13 ?_
        refine Dn.by (U' := T13.setTop (mkF m 57 #[.val (.ref o0), .val (.ref o1), .val (.ref o1)] [(.int (lcmpW u_permanent_o1 u_permanent_o0))])) (fun _ ks => XS.lcmp X13.here hx rfl (hb hby d3_56) rfl ks) ?_
        by_cases c57_14 : u_permanent_o1 = u_permanent_o0
        ·
          refine Dn.by (U' := T13.setTop (mkF m 60 #[.val (.ref o0), .val (.ref o1), .val (.ref o1)] [])) (fun _ ks => XS.ifNo X13.here hx rfl (hb hby d3_57) rfl ((if0 _ _).trans (teq ((lw_eq _ _).mpr c57_14)).2) ks) ?_
          refine Dn.by (U' := T13.setTop (mkF m 61 #[.val (.ref o0), .val (.ref o1), .val (.ref o1)] [(.int (1 : Int32))])) (fun _ ks => XS.iconst X13.here hx rfl (hb hby d3_60)  ks) ?_
          refine Dn.by (U' := T13.setTop (mkF m 65 #[.val (.ref o0), .val (.ref o1), .val (.ref o1)] [(.int (1 : Int32))])) (fun _ ks => XS.goto X13.here hx rfl (pc0 := 61) (pc' := 65) rfl (hb hby d3_61) (by decide) (by decide) ks) ?_
          refine Dn.out X13 (v := (some (.int (1 : Int32)))) (fun h => by rw [Bd.returns] at h; cases h) (BodyLoose.notSynchronized Bd) (fun _ hr => retN X13 hx (t := .boolean) Bd.returns (by simp) (hb hby d3_65) hr) (by decide) (by decide) ?_
          rw [e13]
          exact ⟨by simp only [eqC, if_pos c21_5, if_pos c33_8, if_pos c45_11, if_pos c57_14], N0, rfl⟩
        ·
          refine Dn.by (U' := T13.setTop (mkF m 64 #[.val (.ref o0), .val (.ref o1), .val (.ref o1)] [])) (fun _ ks => XS.ifYes X13.here hx rfl (pc0 := 57) (pc' := 64) rfl (hb hby d3_57) rfl ((if0 _ _).trans (feq (fun z => c57_14 ((lw_eq _ _).mp z))).2) (by decide) (by decide) ks) ?_
          refine Dn.by (U' := T13.setTop (mkF m 65 #[.val (.ref o0), .val (.ref o1), .val (.ref o1)] [(.int (0 : Int32))])) (fun _ ks => XS.iconst X13.here hx rfl (hb hby d3_64)  ks) ?_
          refine Dn.out X13 (v := (some (.int (0 : Int32)))) (fun h => by rw [Bd.returns] at h; cases h) (BodyLoose.notSynchronized Bd) (fun _ hr => retN X13 hx (t := .boolean) Bd.returns (by simp) (hb hby d3_65) hr) (by decide) (by decide) ?_
          rw [e13]
          exact ⟨by simp only [eqC, if_pos c21_5, if_pos c33_8, if_pos c45_11, if_neg c57_14], N0, rfl⟩
      ·
        refine Dn.by (U' := T10.setTop (mkF m 64 #[.val (.ref o0), .val (.ref o1), .val (.ref o1)] [])) (fun _ ks => XS.ifYes X10.here hx rfl (pc0 := 45) (pc' := 64) rfl (hb hby d3_45) rfl ((if0 _ _).trans (feq (fun z => c45_11 ((lw_eq _ _).mp z))).2) (by decide) (by decide) ks) ?_
        refine Dn.by (U' := T10.setTop (mkF m 65 #[.val (.ref o0), .val (.ref o1), .val (.ref o1)] [(.int (0 : Int32))])) (fun _ ks => XS.iconst X10.here hx rfl (hb hby d3_64)  ks) ?_
        refine Dn.out X10 (v := (some (.int (0 : Int32)))) (fun h => by rw [Bd.returns] at h; cases h) (BodyLoose.notSynchronized Bd) (fun _ hr => retN X10 hx (t := .boolean) Bd.returns (by simp) (hb hby d3_65) hr) (by decide) (by decide) ?_
        rw [e10]
        exact ⟨by simp only [eqC, if_pos c21_5, if_pos c33_8, if_neg c45_11], N0, rfl⟩
    ·
      refine Dn.by (U' := T7.setTop (mkF m 64 #[.val (.ref o0), .val (.ref o1), .val (.ref o1)] [])) (fun _ ks => XS.ifYes X7.here hx rfl (pc0 := 33) (pc' := 64) rfl (hb hby d3_33) rfl ((if0 _ _).trans (feq (fun z => c33_8 ((lw_eq _ _).mp z))).2) (by decide) (by decide) ks) ?_
      refine Dn.by (U' := T7.setTop (mkF m 65 #[.val (.ref o0), .val (.ref o1), .val (.ref o1)] [(.int (0 : Int32))])) (fun _ ks => XS.iconst X7.here hx rfl (hb hby d3_64)  ks) ?_
      refine Dn.out X7 (v := (some (.int (0 : Int32)))) (fun h => by rw [Bd.returns] at h; cases h) (BodyLoose.notSynchronized Bd) (fun _ hr => retN X7 hx (t := .boolean) Bd.returns (by simp) (hb hby d3_65) hr) (by decide) (by decide) ?_
      rw [e7]
      exact ⟨by simp only [eqC, if_pos c21_5, if_neg c33_8], N0, rfl⟩
  ·
    refine Dn.by (U' := T4.setTop (mkF m 64 #[.val (.ref o0), .val (.ref o1), .val (.ref o1)] [])) (fun _ ks => XS.ifYes X4.here hx rfl (pc0 := 21) (pc' := 64) rfl (hb hby d3_21) rfl ((if0 _ _).trans (feq (fun z => c21_5 ((lw_eq _ _).mp z))).2) (by decide) (by decide) ks) ?_
    refine Dn.by (U' := T4.setTop (mkF m 65 #[.val (.ref o0), .val (.ref o1), .val (.ref o1)] [(.int (0 : Int32))])) (fun _ ks => XS.iconst X4.here hx rfl (hb hby d3_64)  ks) ?_
    refine Dn.out X4 (v := (some (.int (0 : Int32)))) (fun h => by rw [Bd.returns] at h; cases h) (BodyLoose.notSynchronized Bd) (fun _ hr => retN X4 hx (t := .boolean) Bd.returns (by simp) (hb hby d3_65) hr) (by decide) (by decide) ?_
    rw [e4]
    exact ⟨by simp only [eqC, if_neg c21_5], N0, rfl⟩
abbrev Rm3n : Room := { frames := 0, cells := 0, slots := 0, locals := 0 }
theorem ef_3n (m : MethodId) (o0 : Addr) : entryFrame m #[(.ref o0), .null] 3 = mkF m 0 #[.val (.ref o0), .val .null, .unset] [] := by first | (simp [entryFrame, mkF, argsToLocals, Value.category]; done) | rfl
def Q3n (Z : State) (o0 : Addr) (h0 : Heap) (n0 : Nat) (v : Option Value) (h : Heap) (L : List Loc) : Prop := v = some (.int (0 : Int32)) ∧ Fr n0 L ∧ h = h0
set_option maxRecDepth 65536 in
set_option maxHeartbeats 40000000 in
theorem rm3n (l : Launch) (Z : State) (a0 : Array Value) (hw : ∀ d ∈ tables_1, d.before a0 Z = true) (ws : List Jvm.Cond) (o0 : Addr) (h0 : Heap) (n0 : Nat) (Z0 : n0 ≤ h0.size)  :
    MetFree l (⟨"com/example/weaverbird/weaverbird/model/RetryCounts", "equals", "(Ljava/lang/Object;)Z"⟩ : MethodName) (head1 (Jvm.Cond.code (⟨"com/example/weaverbird/weaverbird/model/RetryCounts", "equals", "(Ljava/lang/Object;)Z"⟩ : MethodName) prog_9_method_7_code 3 (some .boolean) :: ws) Rm3n) (fun a U => a = #[(.ref o0), .null] ∧ Z.Warmed39 U.vm ∧ U.heap = h0) (fun _ _ _ _ _ => True) (fun _ U o U' => ∃ v L, o = .returned v ∧ Q3n Z o0 h0 n0 v U'.heap L ∧ FrameEnd U o U' L Rm3n.cells Rm3n.slots) := by
  refine MetFree.of_bodySF (plainFor_of_name pn0) hisR ?_
  intro p e s m args below meth c s₁ Bd hml0 hP hK
  obtain ⟨rfl, hZ, hh⟩ := hP
  have hx := Bd.exec
  have hby := Bd.bytes
  have hml : c.maxLocals = 3 := hml0
  have hown : s.vm.findClass "com/example/weaverbird/weaverbird/model/RetryCounts" = some m.cls := findClass_of_methodNamed Bd.named
  have hnm := (name_of_methodNamed Bd.named Bd.method).1
  have X0 : Stand p l e Rm3n s m #[(.ref o0), .null] below meth c s₁ [] 0 0 := Stand.of_body Bd
  have e0 : s₁.heap = h0 := by rw [← hh, Bd.state]; rfl
  have N0 := Fr.nil n0
  show Dn p e below s Rm3n.cells Rm3n.slots (Q3n Z o0 h0 n0) (s₁.setTop (entryFrame m #[(.ref o0), .null] 3))
  rw [ef_3n]
  refine Dn.by (U' := s₁.setTop (mkF m 1 #[.val (.ref o0), .val .null, .unset] [.null])) (fun _ ks => XS.aloadN X0.here hx rfl (hb hby d3_0) rfl rfl ks) ?_
  refine Dn.by (U' := s₁.setTop (mkF m 4 #[.val (.ref o0), .val .null, .unset] [(.int (0 : Int32))])) (X0.instanceofNull hx (g := (mkF m 1 #[.val (.ref o0), .val .null, .unset] [.null])) rfl rfl (hb hby d3_1)) ?_
  refine Dn.by (U' := s₁.setTop (mkF m 64 #[.val (.ref o0), .val .null, .unset] [])) (fun _ ks => XS.ifYes X0.here hx rfl (pc0 := 4) (pc' := 64) rfl (hb hby d3_4) rfl (by decide) (by decide) (by decide) ks) ?_
  refine Dn.by (U' := s₁.setTop (mkF m 65 #[.val (.ref o0), .val .null, .unset] [(.int (0 : Int32))])) (fun _ ks => XS.iconst X0.here hx rfl (hb hby d3_64)  ks) ?_
  refine Dn.out X0 (v := (some (.int (0 : Int32)))) (fun h => by rw [Bd.returns] at h; cases h) (BodyLoose.notSynchronized Bd) (fun _ hr => retN X0 hx (t := .boolean) Bd.returns (by simp) (hb hby d3_65) hr) (by decide) (by decide) ?_
  rw [e0]
  exact ⟨rfl, N0, rfl⟩
abbrev Rm3l : Room := { frames := 0, cells := 0, slots := 0, locals := 0 }
theorem ef_3l (m : MethodId) (o0 : Addr) (o1 : Addr) : entryFrame m #[(.ref o0), (.ref o1)] 3 = mkF m 0 #[.val (.ref o0), .val (.ref o1), .unset] [] := by first | (simp [entryFrame, mkF, argsToLocals, Value.category]; done) | rfl
def Q3l (Z : State) (o0 : Addr) (o1 : Addr) (h0 : Heap) (n0 : Nat) (v : Option Value) (h : Heap) (L : List Loc) : Prop := v = some (.int (0 : Int32)) ∧ Fr n0 L ∧ h = h0
set_option maxRecDepth 65536 in
set_option maxHeartbeats 40000000 in
theorem rm3l (l : Launch) (Z : State) (a0 : Array Value) (hw : ∀ d ∈ tables_1, d.before a0 Z = true) (ws : List Jvm.Cond) (o0 : Addr) (o1 : Addr) (h0 : Heap) (n0 : Nat) (Z0 : n0 ≤ h0.size) (E_o1 : Exa Z h0 o1 "java/lang/Long") :
    MetFree l (⟨"com/example/weaverbird/weaverbird/model/RetryCounts", "equals", "(Ljava/lang/Object;)Z"⟩ : MethodName) (head1 (Jvm.Cond.code (⟨"com/example/weaverbird/weaverbird/model/RetryCounts", "equals", "(Ljava/lang/Object;)Z"⟩ : MethodName) prog_9_method_7_code 3 (some .boolean) :: ws) Rm3l) (fun a U => a = #[(.ref o0), (.ref o1)] ∧ Z.Warmed39 U.vm ∧ U.heap = h0) (fun _ _ _ _ _ => True) (fun _ U o U' => ∃ v L, o = .returned v ∧ Q3l Z o0 o1 h0 n0 v U'.heap L ∧ FrameEnd U o U' L Rm3l.cells Rm3l.slots) := by
  refine MetFree.of_bodySF (plainFor_of_name pn0) hisR ?_
  intro p e s m args below meth c s₁ Bd hml0 hP hK
  obtain ⟨rfl, hZ, hh⟩ := hP
  have hx := Bd.exec
  have hby := Bd.bytes
  have hml : c.maxLocals = 3 := hml0
  have hown : s.vm.findClass "com/example/weaverbird/weaverbird/model/RetryCounts" = some m.cls := findClass_of_methodNamed Bd.named
  have hnm := (name_of_methodNamed Bd.named Bd.method).1
  have X0 : Stand p l e Rm3l s m #[(.ref o0), (.ref o1)] below meth c s₁ [] 0 0 := Stand.of_body Bd
  have e0 : s₁.heap = h0 := by rw [← hh, Bd.state]; rfl
  have N0 := Fr.nil n0
  show Dn p e below s Rm3l.cells Rm3l.slots (Q3l Z o0 o1 h0 n0) (s₁.setTop (entryFrame m #[(.ref o0), (.ref o1)] 3))
  rw [ef_3l]
  refine Dn.by (U' := s₁.setTop (mkF m 1 #[.val (.ref o0), .val (.ref o1), .unset] [(.ref o1)])) (fun _ ks => XS.aloadN X0.here hx rfl (hb hby d3_0) rfl rfl ks) ?_
  obtain ⟨T1, X1, e1, st1⟩ := instNo X0 hx hZ (a0 := a0) hown (hw _ (List.mem_of_getElem? (i := 22) rfl)) e0 E_o1 (own_no (hw _ (List.mem_of_getElem? (i := 44) rfl)) (hw _ (List.mem_of_getElem? (i := 1) rfl)) (NS.step (hw _ (List.mem_of_getElem? (i := 44) rfl)) (NS.step (hw _ (List.mem_of_getElem? (i := 45) rfl)) (own_root (hw _ (List.mem_of_getElem? (i := 46) rfl)) (hw _ (List.mem_of_getElem? (i := 1) rfl)) (by decide)) (by decide)) (by decide)) (by decide)) (g := (mkF m 1 #[.val (.ref o0), .val (.ref o1), .unset] [(.ref o1)])) rfl rfl (hb hby d3_1)
  refine Dn.by (U' := T1.setTop (mkF m 4 #[.val (.ref o0), .val (.ref o1), .unset] [(.int (0 : Int32))])) st1 ?_
  refine Dn.by (U' := T1.setTop (mkF m 64 #[.val (.ref o0), .val (.ref o1), .unset] [])) (fun _ ks => XS.ifYes X1.here hx rfl (pc0 := 4) (pc' := 64) rfl (hb hby d3_4) rfl (by decide) (by decide) (by decide) ks) ?_
  refine Dn.by (U' := T1.setTop (mkF m 65 #[.val (.ref o0), .val (.ref o1), .unset] [(.int (0 : Int32))])) (fun _ ks => XS.iconst X1.here hx rfl (hb hby d3_64)  ks) ?_
  refine Dn.out X1 (v := (some (.int (0 : Int32)))) (fun h => by rw [Bd.returns] at h; cases h) (BodyLoose.notSynchronized Bd) (fun _ hr => retN X1 hx (t := .boolean) Bd.returns (by simp) (hb hby d3_65) hr) (by decide) (by decide) ?_
  rw [e1]
  exact ⟨rfl, N0, rfl⟩
abbrev Rm6 : Room := { frames := 1, cells := 0, slots := 0, locals := 12 }
theorem ef_6 (m : MethodId) (o0 : Addr) : entryFrame m #[(.ref o0)] 1 = mkF m 0 #[.val (.ref o0)] [] := by first | (simp [entryFrame, mkF, argsToLocals, Value.category]; done) | rfl
def Q6 (Z : State) (o0 : Addr) (h0 : Heap) (n0 : Nat) (v : Option Value) (h : Heap) (L : List Loc) : Prop := v = none ∧ Fr n0 L ∧ h = h0
set_option maxRecDepth 65536 in
set_option maxHeartbeats 40000000 in
theorem rm6 (l : Launch) (Z : State) (a0 : Array Value) (hw : ∀ d ∈ tables_1, d.before a0 Z = true) (ws : List Jvm.Cond) (o0 : Addr) (h0 : Heap) (n0 : Nat) (Z0 : n0 ≤ h0.size)  :
    MetFree l (⟨"java/lang/Number", "<init>", "()V"⟩ : MethodName) (head1 (Jvm.Cond.code (⟨"java/lang/Number", "<init>", "()V"⟩ : MethodName) jdk_18_method_1_code 1 none :: ws) Rm6) (fun a U => a = #[(.ref o0)] ∧ Z.Warmed39 U.vm ∧ U.heap = h0) (fun _ _ _ _ _ => True) (fun _ U o U' => ∃ v L, o = .returned v ∧ Q6 Z o0 h0 n0 v U'.heap L ∧ FrameEnd U o U' L Rm6.cells Rm6.slots) := by
  refine MetFree.of_bodySF (plainFor_of_name pn1) hisR ?_
  intro p e s m args below meth c s₁ Bd hml0 hP hK
  obtain ⟨rfl, hZ, hh⟩ := hP
  have hx := Bd.exec
  have hby := Bd.bytes
  have hml : c.maxLocals = 1 := hml0
  have hown : s.vm.findClass "java/lang/Number" = some m.cls := findClass_of_methodNamed Bd.named
  have hnm := (name_of_methodNamed Bd.named Bd.method).1
  have X0 : Stand p l e Rm6 s m #[(.ref o0)] below meth c s₁ [] 0 0 := Stand.of_body Bd
  have e0 : s₁.heap = h0 := by rw [← hh, Bd.state]; rfl
  have N0 := Fr.nil n0
  show Dn p e below s Rm6.cells Rm6.slots (Q6 Z o0 h0 n0) (s₁.setTop (entryFrame m #[(.ref o0)] 1))
  rw [ef_6]
  refine Dn.by (U' := s₁.setTop (mkF m 1 #[.val (.ref o0)] [(.ref o0)])) (fun _ ks => XS.aloadN X0.here hx rfl (hb hby d6_0) rfl rfl ks) ?_
  obtain ⟨T1, X1, e1, st1⟩ := initO X0 hx hZ hown (hw _ (List.mem_of_getElem? (i := 41) rfl)) (hw _ (List.mem_of_getElem? (i := 7) rfl)) (hw _ (List.mem_of_getElem? (i := 8) rfl)) e0 (g := (mkF m 1 #[.val (.ref o0)] [(.ref o0)])) rfl (by rw [hml]; rfl) rfl (hb hby d6_1) (by decide) (W := 0) (by show 2 * 0 + _ ≤ _; exact Nat.le_of_eq rfl) (by decide)
  refine Dn.by (U' := T1.setTop (mkF m 4 #[.val (.ref o0)] [])) st1 ?_
  refine Dn.out X1 (v := none) (fun _ => rfl) (BodyLoose.notSynchronized Bd) (fun _ hr => X1.returnOut hx Bd.returns (hb hby d6_4) hr) (by decide) (by decide) ?_
  rw [e1]
  exact ⟨rfl, N0, rfl⟩
abbrev Rm5 : Room := { frames := 2, cells := 0, slots := 0, locals := 24 }
theorem ef_5 (m : MethodId) (o0 : Addr) (q1 : Int64) : entryFrame m #[(.ref o0), (.long q1)] 3 = mkF m 0 #[.val (.ref o0), .val (.long q1), .second] [] := by first | (simp [entryFrame, mkF, argsToLocals, Value.category]; done) | rfl
def Q5 (Z : State) (o0 : Addr) (q1 : Int64) (u_value_o0 : Value) (h0 : Heap) (n0 : Nat) (v : Option Value) (h : Heap) (L : List Loc) : Prop := v = none ∧ Fr n0 L ∧ Keep h0 h [o0] ∧ Exa Z h o0 "java/lang/Long" ∧ Fld Z h o0 "java/lang/Long" "value" "J" (.long q1)
set_option maxRecDepth 65536 in
set_option maxHeartbeats 40000000 in
theorem rm5 (l : Launch) (Z : State) (a0 : Array Value) (hw : ∀ d ∈ tables_1, d.before a0 Z = true) (ws : List Jvm.Cond) (o0 : Addr) (q1 : Int64) (u_value_o0 : Value) (h0 : Heap) (n0 : Nat) (Z0 : n0 ≤ h0.size) (g_o0 : n0 ≤ o0) (E_o0 : Exa Z h0 o0 "java/lang/Long") (F_u_value_o0 : Fld Z h0 o0 "java/lang/Long" "value" "J" u_value_o0) :
    MetFree l (⟨"java/lang/Long", "<init>", "(J)V"⟩ : MethodName) (head1 (Jvm.Cond.code (⟨"java/lang/Long", "<init>", "(J)V"⟩ : MethodName) jdk_35_method_26_code 3 none :: ws) Rm5) (fun a U => a = #[(.ref o0), (.long q1)] ∧ Z.Warmed39 U.vm ∧ U.heap = h0) (fun _ _ _ _ _ => True) (fun _ U o U' => ∃ v L, o = .returned v ∧ Q5 Z o0 q1 u_value_o0 h0 n0 v U'.heap L ∧ FrameEnd U o U' L Rm5.cells Rm5.slots) := by
  refine MetFree.of_bodySF (plainFor_of_name pn2) hisR ?_
  intro p e s m args below meth c s₁ Bd hml0 hP hK
  obtain ⟨rfl, hZ, hh⟩ := hP
  have hx := Bd.exec
  have hby := Bd.bytes
  have hml : c.maxLocals = 3 := hml0
  have hown : s.vm.findClass "java/lang/Long" = some m.cls := findClass_of_methodNamed Bd.named
  have hnm := (name_of_methodNamed Bd.named Bd.method).1
  have X0 : Stand p l e Rm5 s m #[(.ref o0), (.long q1)] below meth c s₁ [] 0 0 := Stand.of_body Bd
  have e0 : s₁.heap = h0 := by rw [← hh, Bd.state]; rfl
  have N0 := Fr.nil n0
  show Dn p e below s Rm5.cells Rm5.slots (Q5 Z o0 q1 u_value_o0 h0 n0) (s₁.setTop (entryFrame m #[(.ref o0), (.long q1)] 3))
  rw [ef_5]
  refine Dn.by (U' := s₁.setTop (mkF m 1 #[.val (.ref o0), .val (.long q1), .second] [(.ref o0)])) (fun _ ks => XS.aloadN X0.here hx rfl (hb hby d5_0) rfl rfl ks) ?_
  obtain ⟨_, _, ⟨T1, L1, k1, n1⟩, -, X1, ⟨Lc1, hQ1, l1, y1, z1⟩, st1⟩ := X0.specialBack hx (y := (⟨"java/lang/Number", "<init>", "()V"⟩ : MethodName)) rfl hown (mvT hZ (hw _ (List.mem_of_getElem? (i := 35) rfl))) (mvT hZ (hw _ (List.mem_of_getElem? (i := 36) rfl))) (mvT hZ (hw _ (List.mem_of_getElem? (i := 40) rfl))) (by decide) (backOf (W := 0) (rm6 l Z a0 hw [] o0  h0 n0 Z0 ) hZ (hw _ (List.mem_of_getElem? (i := 40) rfl)) (hw _ (List.mem_of_getElem? (i := 39) rfl)) (by decide) (by decide)) (g := (mkF m 1 #[.val (.ref o0), .val (.long q1), .second] [(.ref o0)])) rfl (by rw [hml]; rfl) (Steps.refl _) (a := o0) (argsL := []) (rest := []) (lenOf pd0 rfl) rfl (by show 2 * 0 + _ ≤ _; exact Nat.le_of_eq rfl) (hb hby d5_1) (fun _ _ => ⟨rfl, e0, (by decide : 0 + 0 ≤ _), (by decide : 0 + 0 ≤ _)⟩)
  dsimp only [Pt.U, Pt.locs, Pt.cells, Pt.slots] at X1 l1 y1 z1 st1 hQ1
  rw [l1, y1, z1] at X1
  obtain ⟨rfl, N1q, e1⟩ := hQ1
  have N1 := Fr.app N0 N1q
  refine Dn.by (U' := T1.setTop (mkF m 4 #[.val (.ref o0), .val (.long q1), .second] [])) (fun _ ks => st1.trans ks) ?_
  refine Dn.by (U' := T1.setTop (mkF m 5 #[.val (.ref o0), .val (.long q1), .second] [(.ref o0)])) (fun _ ks => XS.aloadN X1.here hx rfl (hb hby d5_4) rfl rfl ks) ?_
  refine Dn.by (U' := T1.setTop (mkF m 6 #[.val (.ref o0), .val (.long q1), .second] [(.long q1), (.ref o0)])) (fun _ ks => XS.lloadN X1.here hx rfl (hb hby d5_5) rfl ks) ?_
  obtain ⟨T2, h2, X2, e2, W2, st2⟩ := putF X1 hx hZ hown (host := "") (Or.inl (hw _ (List.mem_of_getElem? (i := 42) rfl))) Via.refl e1 F_u_value_o0 E_o0 (Or.inr ⟨(hw _ (List.mem_of_getElem? (i := 43) rfl)), rfl, hnm⟩) (hw _ (List.mem_of_getElem? (i := 30) rfl)) (ty := .long) (by decide) rfl rfl (g := (mkF m 6 #[.val (.ref o0), .val (.long q1), .second] [(.long q1), (.ref o0)])) rfl rfl (hb hby d5_6)
  have F2 := F_u_value_o0.same W2
  have K3 : Keep h0 h2 [o0] := ((Keep.refl h0 [o0]).wr W2 (Or.inl (List.mem_of_getElem? (i := 0) rfl)))
  have z3 : n0 ≤ h2.size := (Nat.le_trans Z0 (Keep.of_wr W2).1)
  have N2 := Fr.snoc X2 N1 g_o0
  refine Dn.by (U' := T2.setTop (mkF m 9 #[.val (.ref o0), .val (.long q1), .second] [])) st2 ?_
  refine Dn.out X2 (v := none) (fun _ => rfl) (BodyLoose.notSynchronized Bd) (fun _ hr => X2.returnOut hx Bd.returns (hb hby d5_9) hr) (by decide) (by decide) ?_
  rw [e2]
  exact ⟨rfl, N2, K3, (E_o0.wr W2), F2⟩
abbrev Rm4 : Room := { frames := 3, cells := 1, slots := 1, locals := 39 }
theorem ef_4 (m : MethodId) (q0 : Int64) : entryFrame m #[(.long q0)] 3 = mkF m 0 #[.val (.long q0), .second, .unset] [] := by first | (simp [entryFrame, mkF, argsToLocals, Value.category]; done) | rfl
def Q4 (Z : State) (q0 : Int64) (h0 : Heap) (n0 : Nat) (v : Option Value) (h : Heap) (L : List Loc) : Prop := ∃ b, v = some (.ref b) ∧ Fr n0 L ∧ Keep h0 h [] ∧ Exa Z h b "java/lang/Long"
set_option maxRecDepth 65536 in
set_option maxHeartbeats 40000000 in
theorem rm4 (l : Launch) (Z : State) (a0 : Array Value) (hw : ∀ d ∈ tables_1, d.before a0 Z = true) (ws : List Jvm.Cond) (q0 : Int64) (h0 : Heap) (n0 : Nat) (Z0 : n0 ≤ h0.size) (O0 : Old Z n0 h0) (ca : Addr) (cc : Cell) (vl : Int32 → Value) (S_ca : Sta Z Z.heap "java/lang/Long$LongCache" "cache" "[Ljava/lang/Long;" (.ref ca)) (BX : Bxs Z ca cc "java/lang/Long" "J" (256 : Int32) vl) :
    MetFree l (⟨"java/lang/Long", "valueOf", "(J)Ljava/lang/Long;"⟩ : MethodName) (head1 (Jvm.Cond.code (⟨"java/lang/Long", "valueOf", "(J)Ljava/lang/Long;"⟩ : MethodName) jdk_35_method_24_code 3 (some (.object "java/lang/Long")) :: ws) Rm4) (fun a U => a = #[(.long q0)] ∧ Z.Warmed39 U.vm ∧ U.heap = h0) (fun _ _ _ _ _ => True) (fun _ U o U' => ∃ v L, o = .returned v ∧ Q4 Z q0 h0 n0 v U'.heap L ∧ FrameEnd U o U' L Rm4.cells Rm4.slots) := by
  refine MetFree.of_bodySF (plainFor_of_name pn2) hisR ?_
  intro p e s m args below meth c s₁ Bd hml0 hP hK
  obtain ⟨rfl, hZ, hh⟩ := hP
  have hx := Bd.exec
  have hby := Bd.bytes
  have hml : c.maxLocals = 3 := hml0
  have hown : s.vm.findClass "java/lang/Long" = some m.cls := findClass_of_methodNamed Bd.named
  have hnm := (name_of_methodNamed Bd.named Bd.method).1
  have X0 : Stand p l e Rm4 s m #[(.long q0)] below meth c s₁ [] 0 0 := Stand.of_body Bd
  have e0 : s₁.heap = h0 := by rw [← hh, Bd.state]; rfl
  have N0 := Fr.nil n0
  show Dn p e below s Rm4.cells Rm4.slots (Q4 Z q0 h0 n0) (s₁.setTop (entryFrame m #[(.long q0)] 3))
  rw [ef_4]
  refine Dn.by (U' := s₁.setTop (mkF m 3 #[.val (.long q0), .second, .unset] [(.int (128 : Int32))])) (fun _ ks => XS.sipush X0.here hx rfl (hb hby d4_0)  ks) ?_
  refine Dn.by (U' := s₁.setTop (mkF m 4 #[.val (.long q0), .second, .val (.int (128 : Int32))] [])) (fun _ ks => XS.istoreN X0.here hx rfl (hb hby d4_3) rfl (l' := #[.val (.long q0), .second, .val (.int (128 : Int32))]) rfl ks) ?_
  refine Dn.by (U' := s₁.setTop (mkF m 5 #[.val (.long q0), .second, .val (.int (128 : Int32))] [(.long q0)])) (fun _ ks => XS.lloadN X0.here hx rfl (hb hby d4_4) rfl ks) ?_
  refine Dn.by (U' := s₁.setTop (mkF m 8 #[.val (.long q0), .second, .val (.int (128 : Int32))] [(.long (-128 : Int64)), (.long q0)])) (X0.ldc2Long hx hown (mvT hZ (hw _ (List.mem_of_getElem? (i := 28) rfl))) (g := (mkF m 5 #[.val (.long q0), .second, .val (.int (128 : Int32))] [(.long q0)])) rfl (hb hby d4_5)) ?_
  refine Dn.by (U' := s₁.setTop (mkF m 9 #[.val (.long q0), .second, .val (.int (128 : Int32))] [(.int (lcmpW q0 (-128 : Int64)))])) (fun _ ks => XS.lcmp X0.here hx rfl (hb hby d4_8) rfl ks) ?_
  by_cases c9_1 : q0 < (-128 : Int64)
  ·
    refine Dn.by (U' := s₁.setTop (mkF m 31 #[.val (.long q0), .second, .val (.int (128 : Int32))] [])) (fun _ ks => XS.ifYes X0.here hx rfl (pc0 := 9) (pc' := 31) rfl (hb hby d4_9) rfl ((if0 _ _).trans (tlt ((lw_lt _ _).mpr c9_1)).1) (by decide) (by decide) ks) ?_
    obtain ⟨T2, h2, X2, e2, E2, A2, D2, -, st2⟩ := newO X0 hx hZ hown (hw _ (List.mem_of_getElem? (i := 29) rfl)) (hw _ (List.mem_of_getElem? (i := 30) rfl)) (hw _ (List.mem_of_getElem? (i := 26) rfl)) e0 (g := (mkF m 31 #[.val (.long q0), .second, .val (.int (128 : Int32))] [])) rfl (hb hby d4_31) (by decide) (by decide)
    obtain ⟨b2, g2⟩ : ∃ z, z = h0.size := ⟨_, rfl⟩
    rw [← g2] at A2 D2 st2
    have g_b2 : n0 ≤ b2 := Nat.le_trans Z0 (Nat.le_of_eq g2.symm)
    have sz_b2 : h0.size ≤ b2 := Nat.le_trans (Keep.refl h0 []).1 (Nat.le_of_eq g2.symm)
    have K3 : Keep h0 h2 [] := ((Keep.refl h0 []).ext E2)
    have z3 : n0 ≤ h2.size := (Nat.le_trans Z0 E2.1)
    have O3 : Old Z n0 h2 := O0.ext E2
    have F_value_b2 : Fld Z h2 b2 "java/lang/Long" "value" "J" (.long (0 : Int64)) := D2 (Or.inr (hw _ (List.mem_of_getElem? (i := 43) rfl))) (ty := .long) (by decide)
    refine Dn.by (U' := T2.setTop (mkF m 34 #[.val (.long q0), .second, .val (.int (128 : Int32))] [(.ref b2)])) st2 ?_
    refine Dn.by (U' := T2.setTop (mkF m 35 #[.val (.long q0), .second, .val (.int (128 : Int32))] [(.ref b2), (.ref b2)])) (fun _ ks => XS.dup X2.here hx rfl (hb hby d4_34) rfl rfl ks) ?_
    refine Dn.by (U' := T2.setTop (mkF m 36 #[.val (.long q0), .second, .val (.int (128 : Int32))] [(.long q0), (.ref b2), (.ref b2)])) (fun _ ks => XS.lloadN X2.here hx rfl (hb hby d4_35) rfl ks) ?_
    obtain ⟨_, _, ⟨T4, L4, k4, n4⟩, -, X4, ⟨Lc4, hQ4, l4, y4, z4⟩, st4⟩ := X2.specialBack hx (y := (⟨"java/lang/Long", "<init>", "(J)V"⟩ : MethodName)) rfl hown (mvT hZ (hw _ (List.mem_of_getElem? (i := 31) rfl))) (mvT hZ (hw _ (List.mem_of_getElem? (i := 32) rfl))) (mvT hZ (hw _ (List.mem_of_getElem? (i := 34) rfl))) (by decide) (backOf (W := 1) (rm5 l Z a0 hw [] b2 q0 ((.long (0 : Int64)) : Value) h2 n0 z3 g_b2 A2 F_value_b2) hZ (hw _ (List.mem_of_getElem? (i := 34) rfl)) (hw _ (List.mem_of_getElem? (i := 26) rfl)) (by decide) (by decide)) (g := (mkF m 36 #[.val (.long q0), .second, .val (.int (128 : Int32))] [(.long q0), (.ref b2), (.ref b2)])) rfl (by rw [hml]; rfl) (Steps.refl _) (a := b2) (argsL := [(.long q0)]) (rest := [(.ref b2)]) (lenOf pd1 rfl) rfl (by show 2 * 0 + _ ≤ _; exact Nat.le_of_eq rfl) (hb hby d4_36) (fun _ _ => ⟨rfl, e2, (by decide : 1 + 0 ≤ _), (by decide : 1 + 0 ≤ _)⟩)
    dsimp only [Pt.U, Pt.locs, Pt.cells, Pt.slots] at X4 l4 y4 z4 st4 hQ4
    rw [l4, y4, z4] at X4
    obtain ⟨rfl, N4q, KK4, EE4, FF4_0⟩ := hQ4
    have N4 := Fr.app N0 N4q
    have K5 : Keep h0 T4.heap [] := (K3.trans KK4 (allS (Or.inr sz_b2) all0))
    have z5 : n0 ≤ T4.heap.size := (Nat.le_trans z3 KK4.1)
    have O5 : Old Z n0 T4.heap := O3.keep KK4 (allS g_b2 all0)
    refine Dn.by (U' := T4.setTop (mkF m 39 #[.val (.long q0), .second, .val (.int (128 : Int32))] [(.ref b2)])) (fun _ ks => st4.trans ks) ?_
    refine Dn.out X4 (v := (some (.ref b2))) (fun h => by rw [Bd.returns] at h; cases h) (BodyLoose.notSynchronized Bd) (fun _ hr => retOut X4 hx Bd.returns rfl (Or.inr (Or.inr (Or.inr (Or.inr ⟨rfl, rfl, rfl⟩)))) (hb hby d4_39) hr) (by decide) (by decide) ?_
    exact ⟨b2, rfl, N4, K5, (A2.keep KK4)⟩
  ·
    refine Dn.by (U' := s₁.setTop (mkF m 12 #[.val (.long q0), .second, .val (.int (128 : Int32))] [])) (fun _ ks => XS.ifNo X0.here hx rfl (hb hby d4_9) rfl ((if0 _ _).trans (flt (fun z => c9_1 ((lw_lt _ _).mp z))).1) ks) ?_
    refine Dn.by (U' := s₁.setTop (mkF m 13 #[.val (.long q0), .second, .val (.int (128 : Int32))] [(.long q0)])) (fun _ ks => XS.lloadN X0.here hx rfl (hb hby d4_12) rfl ks) ?_
    refine Dn.by (U' := s₁.setTop (mkF m 16 #[.val (.long q0), .second, .val (.int (128 : Int32))] [(.long (127 : Int64)), (.long q0)])) (X0.ldc2Long hx hown (mvT hZ (hw _ (List.mem_of_getElem? (i := 47) rfl))) (g := (mkF m 13 #[.val (.long q0), .second, .val (.int (128 : Int32))] [(.long q0)])) rfl (hb hby d4_13)) ?_
    refine Dn.by (U' := s₁.setTop (mkF m 17 #[.val (.long q0), .second, .val (.int (128 : Int32))] [(.int (lcmpW q0 (127 : Int64)))])) (fun _ ks => XS.lcmp X0.here hx rfl (hb hby d4_16) rfl ks) ?_
    by_cases c17_6 : (127 : Int64) < q0
    ·
      refine Dn.by (U' := s₁.setTop (mkF m 31 #[.val (.long q0), .second, .val (.int (128 : Int32))] [])) (fun _ ks => XS.ifYes X0.here hx rfl (pc0 := 17) (pc' := 31) rfl (hb hby d4_17) rfl ((if0 _ _).trans (tlt ((lw_gt _ _).mpr c17_6)).2.2.1) (by decide) (by decide) ks) ?_
      obtain ⟨T7, h7, X7, e7, E7, A7, D7, -, st7⟩ := newO X0 hx hZ hown (hw _ (List.mem_of_getElem? (i := 29) rfl)) (hw _ (List.mem_of_getElem? (i := 30) rfl)) (hw _ (List.mem_of_getElem? (i := 26) rfl)) e0 (g := (mkF m 31 #[.val (.long q0), .second, .val (.int (128 : Int32))] [])) rfl (hb hby d4_31) (by decide) (by decide)
      obtain ⟨b7, g7⟩ : ∃ z, z = h0.size := ⟨_, rfl⟩
      rw [← g7] at A7 D7 st7
      have g_b7 : n0 ≤ b7 := Nat.le_trans Z0 (Nat.le_of_eq g7.symm)
      have sz_b7 : h0.size ≤ b7 := Nat.le_trans (Keep.refl h0 []).1 (Nat.le_of_eq g7.symm)
      have K8 : Keep h0 h7 [] := ((Keep.refl h0 []).ext E7)
      have z8 : n0 ≤ h7.size := (Nat.le_trans Z0 E7.1)
      have O8 : Old Z n0 h7 := O0.ext E7
      have F_value_b7 : Fld Z h7 b7 "java/lang/Long" "value" "J" (.long (0 : Int64)) := D7 (Or.inr (hw _ (List.mem_of_getElem? (i := 43) rfl))) (ty := .long) (by decide)
      refine Dn.by (U' := T7.setTop (mkF m 34 #[.val (.long q0), .second, .val (.int (128 : Int32))] [(.ref b7)])) st7 ?_
      refine Dn.by (U' := T7.setTop (mkF m 35 #[.val (.long q0), .second, .val (.int (128 : Int32))] [(.ref b7), (.ref b7)])) (fun _ ks => XS.dup X7.here hx rfl (hb hby d4_34) rfl rfl ks) ?_
      refine Dn.by (U' := T7.setTop (mkF m 36 #[.val (.long q0), .second, .val (.int (128 : Int32))] [(.long q0), (.ref b7), (.ref b7)])) (fun _ ks => XS.lloadN X7.here hx rfl (hb hby d4_35) rfl ks) ?_
      obtain ⟨_, _, ⟨T9, L9, k9, n9⟩, -, X9, ⟨Lc9, hQ9, l9, y9, z9⟩, st9⟩ := X7.specialBack hx (y := (⟨"java/lang/Long", "<init>", "(J)V"⟩ : MethodName)) rfl hown (mvT hZ (hw _ (List.mem_of_getElem? (i := 31) rfl))) (mvT hZ (hw _ (List.mem_of_getElem? (i := 32) rfl))) (mvT hZ (hw _ (List.mem_of_getElem? (i := 34) rfl))) (by decide) (backOf (W := 1) (rm5 l Z a0 hw [] b7 q0 ((.long (0 : Int64)) : Value) h7 n0 z8 g_b7 A7 F_value_b7) hZ (hw _ (List.mem_of_getElem? (i := 34) rfl)) (hw _ (List.mem_of_getElem? (i := 26) rfl)) (by decide) (by decide)) (g := (mkF m 36 #[.val (.long q0), .second, .val (.int (128 : Int32))] [(.long q0), (.ref b7), (.ref b7)])) rfl (by rw [hml]; rfl) (Steps.refl _) (a := b7) (argsL := [(.long q0)]) (rest := [(.ref b7)]) (lenOf pd1 rfl) rfl (by show 2 * 0 + _ ≤ _; exact Nat.le_of_eq rfl) (hb hby d4_36) (fun _ _ => ⟨rfl, e7, (by decide : 1 + 0 ≤ _), (by decide : 1 + 0 ≤ _)⟩)
      dsimp only [Pt.U, Pt.locs, Pt.cells, Pt.slots] at X9 l9 y9 z9 st9 hQ9
      rw [l9, y9, z9] at X9
      obtain ⟨rfl, N9q, KK9, EE9, FF9_0⟩ := hQ9
      have N9 := Fr.app N0 N9q
      have K10 : Keep h0 T9.heap [] := (K8.trans KK9 (allS (Or.inr sz_b7) all0))
      have z10 : n0 ≤ T9.heap.size := (Nat.le_trans z8 KK9.1)
      have O10 : Old Z n0 T9.heap := O8.keep KK9 (allS g_b7 all0)
      refine Dn.by (U' := T9.setTop (mkF m 39 #[.val (.long q0), .second, .val (.int (128 : Int32))] [(.ref b7)])) (fun _ ks => st9.trans ks) ?_
      refine Dn.out X9 (v := (some (.ref b7))) (fun h => by rw [Bd.returns] at h; cases h) (BodyLoose.notSynchronized Bd) (fun _ hr => retOut X9 hx Bd.returns rfl (Or.inr (Or.inr (Or.inr (Or.inr ⟨rfl, rfl, rfl⟩)))) (hb hby d4_39) hr) (by decide) (by decide) ?_
      exact ⟨b7, rfl, N9, K10, (A7.keep KK9)⟩
    ·
      refine Dn.by (U' := s₁.setTop (mkF m 20 #[.val (.long q0), .second, .val (.int (128 : Int32))] [])) (fun _ ks => XS.ifNo X0.here hx rfl (hb hby d4_17) rfl ((if0 _ _).trans (flt (fun z => c17_6 ((lw_gt _ _).mp z))).2.2.1) ks) ?_
      obtain ⟨T11, X11, e11, st11⟩ := getS2 X0 hx hZ (a0 := a0) hown (host := "") (Or.inl (hw _ (List.mem_of_getElem? (i := 48) rfl))) Via.refl e0 (S_ca.ext O0.2) (g := (mkF m 20 #[.val (.long q0), .second, .val (.int (128 : Int32))] [])) rfl (hb hby d4_20)
      refine Dn.by (U' := T11.setTop (mkF m 23 #[.val (.long q0), .second, .val (.int (128 : Int32))] [(.ref ca)])) st11 ?_
      refine Dn.by (U' := T11.setTop (mkF m 24 #[.val (.long q0), .second, .val (.int (128 : Int32))] [(.long q0), (.ref ca)])) (fun _ ks => XS.lloadN X11.here hx rfl (hb hby d4_23) rfl ks) ?_
      refine Dn.by (U' := T11.setTop (mkF m 25 #[.val (.long q0), .second, .val (.int (128 : Int32))] [(.int (q0.toInt32)), (.ref ca)])) (fun _ ks => XS.l2i X11.here hx rfl (hb hby d4_24) rfl ks) ?_
      refine Dn.by (U' := T11.setTop (mkF m 28 #[.val (.long q0), .second, .val (.int (128 : Int32))] [(.int (128 : Int32)), (.int (q0.toInt32)), (.ref ca)])) (fun _ ks => XS.sipush X11.here hx rfl (hb hby d4_25)  ks) ?_
      refine Dn.by (U' := T11.setTop (mkF m 29 #[.val (.long q0), .second, .val (.int (128 : Int32))] [(.int ((q0.toInt32) + (128 : Int32))), (.ref ca)])) (fun _ ks => XS.iadd X11.here hx rfl (hb hby d4_28) rfl ks) ?_
      have hj : ¬ ((q0.toInt32) + (128 : Int32)) < (0 : Int32) ∧ ((q0.toInt32) + (128 : Int32)) < (256 : Int32) := by
        have u0 : ¬ q0.toInt < (-128 : Int64).toInt := fun q => c9_1 (Int64.lt_iff_toInt_lt.mpr q)
        have u1 : ¬ (127 : Int64).toInt < q0.toInt := fun q => c17_6 (Int64.lt_iff_toInt_lt.mpr q)
        have u2 := rng64 q0
        have u3 := (by decide : (-128 : Int64).toInt = -128)
        have u4 := (by decide : (127 : Int64).toInt = 127)
        have u5 := rng32 (q0.toInt32)
        have u6 := c_l2i q0
        have u7 := (by decide : (128 : Int32).toInt = 128)
        have u8 := rng32 ((q0.toInt32) + (128 : Int32))
        have u9 := c_iadd (q0.toInt32) (128 : Int32)
        have u10 := (by decide : (0 : Int32).toInt = 0)
        have u11 := (by decide : (256 : Int32).toInt = 256)
        rw [Int32.lt_iff_toInt_lt, Int32.lt_iff_toInt_lt]
        omega
      have hin := inb_of BX.2.1 hj
      obtain ⟨bx, hat, EB, FB⟩ := BX.2.2.2 ((q0.toInt32) + (128 : Int32)) hin
      have Ar : Arr Z h0 ca cc (.object "java/lang/Long") := (BX.ext O0.2).1
      refine Dn.by (U' := T11.setTop (mkF m 30 #[.val (.long q0), .second, .val (.int (128 : Int32))] [(.ref bx)])) (X11.aaload hx (j := ((q0.toInt32) + (128 : Int32))) (v := (.ref bx)) (by rw [e11]; exact Ar.1) (State.isArrayOf_alike hZ.alike Ar.2.1) rfl Ar.2.2 hin hat (g := (mkF m 29 #[.val (.long q0), .second, .val (.int (128 : Int32))] [(.int ((q0.toInt32) + (128 : Int32))), (.ref ca)])) rfl rfl (hb hby d4_29)) ?_
      refine Dn.out X11 (v := (some (.ref bx))) (fun h => by rw [Bd.returns] at h; cases h) (BodyLoose.notSynchronized Bd) (fun _ hr => retOut X11 hx Bd.returns rfl (Or.inr (Or.inr (Or.inr (Or.inr ⟨rfl, rfl, rfl⟩)))) (hb hby d4_30) hr) (by decide) (by decide) ?_
      rw [e11]
      exact ⟨bx, rfl, N0, (Keep.refl h0 []), (EB.ext O0.2)⟩
theorem own_refl (o : Addr) (a b c d : Int64) : eqC o o a b c d a b c d = 1 := by
  unfold eqC
  simp only [if_true]
theorem ef_0 (m : MethodId) (q0 : Int64) (q1 : Int64) (q2 : Int64) (q3 : Int64) (q4 : Int64) (p5 : Int32) : entryFrame m #[(.long q0), (.long q1), (.long q2), (.long q3), (.long q4), (.int p5)] maxLocals = mkF m 0 #[.val (.long q0), .second, .val (.long q1), .second, .val (.long q2), .second, .val (.long q3), .second, .val (.long q4), .second, .val (.int p5), .unset, .unset, .unset, .unset, .unset, .unset, .unset, .unset, .unset, .unset, .unset, .unset, .unset, .unset, .unset, .unset] [] := by first | (simp [entryFrame, mkF, argsToLocals, Value.category, maxLocals]; done) | rfl
def Q0 (Z : State) (q0 : Int64) (q1 : Int64) (q2 : Int64) (q3 : Int64) (q4 : Int64) (p5 : Int32) (ca : Addr) (cc : Cell) (vl : Int32 → Value) (h0 : Heap) (n0 : Nat) (v : Option Value) (h : Heap) (L : List Loc) : Prop := v = some (.int 1) ∧ Fr n0 L
set_option maxRecDepth 65536 in
set_option maxHeartbeats 40000000 in
theorem rm0 (l : Launch) (Z : State) (a0 : Array Value) (hw : ∀ d ∈ tables_1, d.before a0 Z = true) (ws : List Jvm.Cond) (q0 : Int64) (q1 : Int64) (q2 : Int64) (q3 : Int64) (q4 : Int64) (p5 : Int32) (ca : Addr) (cc : Cell) (vl : Int32 → Value) (h0 : Heap) (n0 : Nat) (Z0 : n0 ≤ h0.size) (O0 : Old Z n0 h0) (S_ca : Sta Z Z.heap "java/lang/Long$LongCache" "cache" "[Ljava/lang/Long;" (.ref ca)) (BX : Bxs Z ca cc "java/lang/Long" "J" (256 : Int32) vl) :
    MetFree l x (head1 (Jvm.Cond.code x code maxLocals ret :: ws) room_1) (fun a U => a = #[(.long q0), (.long q1), (.long q2), (.long q3), (.long q4), (.int p5)] ∧ Z.Warmed39 U.vm ∧ U.heap = h0) (fun _ _ _ _ _ => True) (fun _ U o U' => ∃ v L, o = .returned v ∧ Q0 Z q0 q1 q2 q3 q4 p5 ca cc vl h0 n0 v U'.heap L ∧ FrameEnd U o U' L 16 128) := by
  refine MetFree.of_bodySF (plainFor_of_name pn3) hisR ?_
  intro p e s m args below meth c s₁ Bd hml0 hP hK
  obtain ⟨rfl, hZ, hh⟩ := hP
  have hx := Bd.exec
  have hby := Bd.bytes
  have hml : c.maxLocals = 27 := hml0
  have hown : s.vm.findClass "com/example/weaverbird/weaverbird/model/RetryCountsEqualsPinLaw" = some m.cls := findClass_of_methodNamed Bd.named
  have hnm := (name_of_methodNamed Bd.named Bd.method).1
  have X0 : Stand p l e room_1 s m #[(.long q0), (.long q1), (.long q2), (.long q3), (.long q4), (.int p5)] below meth c s₁ [] 0 0 := Stand.of_body Bd
  have e0 : s₁.heap = h0 := by rw [← hh, Bd.state]; rfl
  have N0 := Fr.nil n0
  show Dn p e below s 16 128 (Q0 Z q0 q1 q2 q3 q4 p5 ca cc vl h0 n0) (s₁.setTop (entryFrame m #[(.long q0), (.long q1), (.long q2), (.long q3), (.long q4), (.int p5)] maxLocals))
  rw [ef_0]
  refine Dn.by (U' := s₁.setTop (mkF m 2 #[.val (.long q0), .second, .val (.long q1), .second, .val (.long q2), .second, .val (.long q3), .second, .val (.long q4), .second, .val (.int p5), .unset, .unset, .unset, .unset, .unset, .unset, .unset, .unset, .unset, .unset, .unset, .unset, .unset, .unset, .unset, .unset] [(.int p5)])) (fun _ ks => XS.iload X0.here hx rfl (hb hby at_0) rfl ks) ?_
  refine Dn.by (U' := s₁.setTop (mkF m 3 #[.val (.long q0), .second, .val (.long q1), .second, .val (.long q2), .second, .val (.long q3), .second, .val (.long q4), .second, .val (.int p5), .unset, .unset, .unset, .unset, .unset, .unset, .unset, .unset, .unset, .unset, .unset, .unset, .unset, .unset, .unset, .unset] [(.int (1 : Int32)), (.int p5)])) (fun _ ks => XS.iconst X0.here hx rfl (hb hby at_2)  ks) ?_
  refine Dn.by (U' := s₁.setTop (mkF m 4 #[.val (.long q0), .second, .val (.long q1), .second, .val (.long q2), .second, .val (.long q3), .second, .val (.long q4), .second, .val (.int p5), .unset, .unset, .unset, .unset, .unset, .unset, .unset, .unset, .unset, .unset, .unset, .unset, .unset, .unset, .unset, .unset] [(.int (p5 &&& (1 : Int32)))])) (fun _ ks => XS.iand X0.here hx rfl (hb hby at_3) rfl ks) ?_
  have Jpa : ∀ pa : Int32, Dn p e below s 16 128 (Q0 Z q0 q1 q2 q3 q4 p5 ca cc vl h0 n0) (s₁.setTop (mkF m 12 #[.val (.long q0), .second, .val (.long q1), .second, .val (.long q2), .second, .val (.long q3), .second, .val (.long q4), .second, .val (.int p5), .unset, .unset, .unset, .unset, .unset, .unset, .unset, .unset, .unset, .unset, .unset, .unset, .unset, .unset, .unset, .unset] [(.int pa)])) := by
    intro pa
    refine Dn.by (U' := s₁.setTop (mkF m 14 #[.val (.long q0), .second, .val (.long q1), .second, .val (.long q2), .second, .val (.long q3), .second, .val (.long q4), .second, .val (.int p5), .val (.int pa), .unset, .unset, .unset, .unset, .unset, .unset, .unset, .unset, .unset, .unset, .unset, .unset, .unset, .unset, .unset] [])) (fun _ ks => XS.istore X0.here hx rfl (hb hby at_12) rfl (l' := #[.val (.long q0), .second, .val (.long q1), .second, .val (.long q2), .second, .val (.long q3), .second, .val (.long q4), .second, .val (.int p5), .val (.int pa), .unset, .unset, .unset, .unset, .unset, .unset, .unset, .unset, .unset, .unset, .unset, .unset, .unset, .unset, .unset]) rfl ks) ?_
    refine Dn.by (U' := s₁.setTop (mkF m 16 #[.val (.long q0), .second, .val (.long q1), .second, .val (.long q2), .second, .val (.long q3), .second, .val (.long q4), .second, .val (.int p5), .val (.int pa), .unset, .unset, .unset, .unset, .unset, .unset, .unset, .unset, .unset, .unset, .unset, .unset, .unset, .unset, .unset] [(.int p5)])) (fun _ ks => XS.iload X0.here hx rfl (hb hby at_14) rfl ks) ?_
    refine Dn.by (U' := s₁.setTop (mkF m 17 #[.val (.long q0), .second, .val (.long q1), .second, .val (.long q2), .second, .val (.long q3), .second, .val (.long q4), .second, .val (.int p5), .val (.int pa), .unset, .unset, .unset, .unset, .unset, .unset, .unset, .unset, .unset, .unset, .unset, .unset, .unset, .unset, .unset] [(.int (2 : Int32)), (.int p5)])) (fun _ ks => XS.iconst X0.here hx rfl (hb hby at_16)  ks) ?_
    refine Dn.by (U' := s₁.setTop (mkF m 18 #[.val (.long q0), .second, .val (.long q1), .second, .val (.long q2), .second, .val (.long q3), .second, .val (.long q4), .second, .val (.int p5), .val (.int pa), .unset, .unset, .unset, .unset, .unset, .unset, .unset, .unset, .unset, .unset, .unset, .unset, .unset, .unset, .unset] [(.int (p5 &&& (2 : Int32)))])) (fun _ ks => XS.iand X0.here hx rfl (hb hby at_17) rfl ks) ?_
    have Jpb : ∀ pb : Int32, Dn p e below s 16 128 (Q0 Z q0 q1 q2 q3 q4 p5 ca cc vl h0 n0) (s₁.setTop (mkF m 26 #[.val (.long q0), .second, .val (.long q1), .second, .val (.long q2), .second, .val (.long q3), .second, .val (.long q4), .second, .val (.int p5), .val (.int pa), .unset, .unset, .unset, .unset, .unset, .unset, .unset, .unset, .unset, .unset, .unset, .unset, .unset, .unset, .unset] [(.int pb)])) := by
      intro pb
      refine Dn.by (U' := s₁.setTop (mkF m 28 #[.val (.long q0), .second, .val (.long q1), .second, .val (.long q2), .second, .val (.long q3), .second, .val (.long q4), .second, .val (.int p5), .val (.int pa), .val (.int pb), .unset, .unset, .unset, .unset, .unset, .unset, .unset, .unset, .unset, .unset, .unset, .unset, .unset, .unset] [])) (fun _ ks => XS.istore X0.here hx rfl (hb hby at_26) rfl (l' := #[.val (.long q0), .second, .val (.long q1), .second, .val (.long q2), .second, .val (.long q3), .second, .val (.long q4), .second, .val (.int p5), .val (.int pa), .val (.int pb), .unset, .unset, .unset, .unset, .unset, .unset, .unset, .unset, .unset, .unset, .unset, .unset, .unset, .unset]) rfl ks) ?_
      refine Dn.by (U' := s₁.setTop (mkF m 30 #[.val (.long q0), .second, .val (.long q1), .second, .val (.long q2), .second, .val (.long q3), .second, .val (.long q4), .second, .val (.int p5), .val (.int pa), .val (.int pb), .unset, .unset, .unset, .unset, .unset, .unset, .unset, .unset, .unset, .unset, .unset, .unset, .unset, .unset] [(.int p5)])) (fun _ ks => XS.iload X0.here hx rfl (hb hby at_28) rfl ks) ?_
      refine Dn.by (U' := s₁.setTop (mkF m 31 #[.val (.long q0), .second, .val (.long q1), .second, .val (.long q2), .second, .val (.long q3), .second, .val (.long q4), .second, .val (.int p5), .val (.int pa), .val (.int pb), .unset, .unset, .unset, .unset, .unset, .unset, .unset, .unset, .unset, .unset, .unset, .unset, .unset, .unset] [(.int (4 : Int32)), (.int p5)])) (fun _ ks => XS.iconst X0.here hx rfl (hb hby at_30)  ks) ?_
      refine Dn.by (U' := s₁.setTop (mkF m 32 #[.val (.long q0), .second, .val (.long q1), .second, .val (.long q2), .second, .val (.long q3), .second, .val (.long q4), .second, .val (.int p5), .val (.int pa), .val (.int pb), .unset, .unset, .unset, .unset, .unset, .unset, .unset, .unset, .unset, .unset, .unset, .unset, .unset, .unset] [(.int (p5 &&& (4 : Int32)))])) (fun _ ks => XS.iand X0.here hx rfl (hb hby at_31) rfl ks) ?_
      have Jpc : ∀ pc : Int32, Dn p e below s 16 128 (Q0 Z q0 q1 q2 q3 q4 p5 ca cc vl h0 n0) (s₁.setTop (mkF m 40 #[.val (.long q0), .second, .val (.long q1), .second, .val (.long q2), .second, .val (.long q3), .second, .val (.long q4), .second, .val (.int p5), .val (.int pa), .val (.int pb), .unset, .unset, .unset, .unset, .unset, .unset, .unset, .unset, .unset, .unset, .unset, .unset, .unset, .unset] [(.int pc)])) := by
        intro pc
        refine Dn.by (U' := s₁.setTop (mkF m 42 #[.val (.long q0), .second, .val (.long q1), .second, .val (.long q2), .second, .val (.long q3), .second, .val (.long q4), .second, .val (.int p5), .val (.int pa), .val (.int pb), .val (.int pc), .unset, .unset, .unset, .unset, .unset, .unset, .unset, .unset, .unset, .unset, .unset, .unset, .unset] [])) (fun _ ks => XS.istore X0.here hx rfl (hb hby at_40) rfl (l' := #[.val (.long q0), .second, .val (.long q1), .second, .val (.long q2), .second, .val (.long q3), .second, .val (.long q4), .second, .val (.int p5), .val (.int pa), .val (.int pb), .val (.int pc), .unset, .unset, .unset, .unset, .unset, .unset, .unset, .unset, .unset, .unset, .unset, .unset, .unset]) rfl ks) ?_
        refine Dn.by (U' := s₁.setTop (mkF m 44 #[.val (.long q0), .second, .val (.long q1), .second, .val (.long q2), .second, .val (.long q3), .second, .val (.long q4), .second, .val (.int p5), .val (.int pa), .val (.int pb), .val (.int pc), .unset, .unset, .unset, .unset, .unset, .unset, .unset, .unset, .unset, .unset, .unset, .unset, .unset] [(.int p5)])) (fun _ ks => XS.iload X0.here hx rfl (hb hby at_42) rfl ks) ?_
        refine Dn.by (U' := s₁.setTop (mkF m 46 #[.val (.long q0), .second, .val (.long q1), .second, .val (.long q2), .second, .val (.long q3), .second, .val (.long q4), .second, .val (.int p5), .val (.int pa), .val (.int pb), .val (.int pc), .unset, .unset, .unset, .unset, .unset, .unset, .unset, .unset, .unset, .unset, .unset, .unset, .unset] [(.int (8 : Int32)), (.int p5)])) (fun _ ks => XS.bipush X0.here hx rfl (hb hby at_44)  ks) ?_
        refine Dn.by (U' := s₁.setTop (mkF m 47 #[.val (.long q0), .second, .val (.long q1), .second, .val (.long q2), .second, .val (.long q3), .second, .val (.long q4), .second, .val (.int p5), .val (.int pa), .val (.int pb), .val (.int pc), .unset, .unset, .unset, .unset, .unset, .unset, .unset, .unset, .unset, .unset, .unset, .unset, .unset] [(.int (p5 &&& (8 : Int32)))])) (fun _ ks => XS.iand X0.here hx rfl (hb hby at_46) rfl ks) ?_
        have Jpd : ∀ pd : Int32, Dn p e below s 16 128 (Q0 Z q0 q1 q2 q3 q4 p5 ca cc vl h0 n0) (s₁.setTop (mkF m 55 #[.val (.long q0), .second, .val (.long q1), .second, .val (.long q2), .second, .val (.long q3), .second, .val (.long q4), .second, .val (.int p5), .val (.int pa), .val (.int pb), .val (.int pc), .unset, .unset, .unset, .unset, .unset, .unset, .unset, .unset, .unset, .unset, .unset, .unset, .unset] [(.int pd)])) := by
          intro pd
          refine Dn.by (U' := s₁.setTop (mkF m 57 #[.val (.long q0), .second, .val (.long q1), .second, .val (.long q2), .second, .val (.long q3), .second, .val (.long q4), .second, .val (.int p5), .val (.int pa), .val (.int pb), .val (.int pc), .val (.int pd), .unset, .unset, .unset, .unset, .unset, .unset, .unset, .unset, .unset, .unset, .unset, .unset] [])) (fun _ ks => XS.istore X0.here hx rfl (hb hby at_55) rfl (l' := #[.val (.long q0), .second, .val (.long q1), .second, .val (.long q2), .second, .val (.long q3), .second, .val (.long q4), .second, .val (.int p5), .val (.int pa), .val (.int pb), .val (.int pc), .val (.int pd), .unset, .unset, .unset, .unset, .unset, .unset, .unset, .unset, .unset, .unset, .unset, .unset]) rfl ks) ?_
          refine Dn.by (U' := s₁.setTop (mkF m 59 #[.val (.long q0), .second, .val (.long q1), .second, .val (.long q2), .second, .val (.long q3), .second, .val (.long q4), .second, .val (.int p5), .val (.int pa), .val (.int pb), .val (.int pc), .val (.int pd), .unset, .unset, .unset, .unset, .unset, .unset, .unset, .unset, .unset, .unset, .unset, .unset] [(.int pa)])) (fun _ ks => XS.iload X0.here hx rfl (hb hby at_57) rfl ks) ?_
          have Ja2 : ∀ a2 : Int64, Dn p e below s 16 128 (Q0 Z q0 q1 q2 q3 q4 p5 ca cc vl h0 n0) (s₁.setTop (mkF m 70 #[.val (.long q0), .second, .val (.long q1), .second, .val (.long q2), .second, .val (.long q3), .second, .val (.long q4), .second, .val (.int p5), .val (.int pa), .val (.int pb), .val (.int pc), .val (.int pd), .unset, .unset, .unset, .unset, .unset, .unset, .unset, .unset, .unset, .unset, .unset, .unset] [(.long a2)])) := by
            intro a2
            refine Dn.by (U' := s₁.setTop (mkF m 72 #[.val (.long q0), .second, .val (.long q1), .second, .val (.long q2), .second, .val (.long q3), .second, .val (.long q4), .second, .val (.int p5), .val (.int pa), .val (.int pb), .val (.int pc), .val (.int pd), .val (.long a2), .second, .unset, .unset, .unset, .unset, .unset, .unset, .unset, .unset, .unset, .unset] [])) (fun _ ks => XS.lstore X0.here hx rfl (hb hby at_70) rfl (l' := #[.val (.long q0), .second, .val (.long q1), .second, .val (.long q2), .second, .val (.long q3), .second, .val (.long q4), .second, .val (.int p5), .val (.int pa), .val (.int pb), .val (.int pc), .val (.int pd), .val (.long a2), .second, .unset, .unset, .unset, .unset, .unset, .unset, .unset, .unset, .unset, .unset]) rfl ks) ?_
            refine Dn.by (U' := s₁.setTop (mkF m 74 #[.val (.long q0), .second, .val (.long q1), .second, .val (.long q2), .second, .val (.long q3), .second, .val (.long q4), .second, .val (.int p5), .val (.int pa), .val (.int pb), .val (.int pc), .val (.int pd), .val (.long a2), .second, .unset, .unset, .unset, .unset, .unset, .unset, .unset, .unset, .unset, .unset] [(.int pb)])) (fun _ ks => XS.iload X0.here hx rfl (hb hby at_72) rfl ks) ?_
            have Jb2 : ∀ b2 : Int64, Dn p e below s 16 128 (Q0 Z q0 q1 q2 q3 q4 p5 ca cc vl h0 n0) (s₁.setTop (mkF m 85 #[.val (.long q0), .second, .val (.long q1), .second, .val (.long q2), .second, .val (.long q3), .second, .val (.long q4), .second, .val (.int p5), .val (.int pa), .val (.int pb), .val (.int pc), .val (.int pd), .val (.long a2), .second, .unset, .unset, .unset, .unset, .unset, .unset, .unset, .unset, .unset, .unset] [(.long b2)])) := by
              intro b2
              refine Dn.by (U' := s₁.setTop (mkF m 87 #[.val (.long q0), .second, .val (.long q1), .second, .val (.long q2), .second, .val (.long q3), .second, .val (.long q4), .second, .val (.int p5), .val (.int pa), .val (.int pb), .val (.int pc), .val (.int pd), .val (.long a2), .second, .val (.long b2), .second, .unset, .unset, .unset, .unset, .unset, .unset, .unset, .unset] [])) (fun _ ks => XS.lstore X0.here hx rfl (hb hby at_85) rfl (l' := #[.val (.long q0), .second, .val (.long q1), .second, .val (.long q2), .second, .val (.long q3), .second, .val (.long q4), .second, .val (.int p5), .val (.int pa), .val (.int pb), .val (.int pc), .val (.int pd), .val (.long a2), .second, .val (.long b2), .second, .unset, .unset, .unset, .unset, .unset, .unset, .unset, .unset]) rfl ks) ?_
              refine Dn.by (U' := s₁.setTop (mkF m 89 #[.val (.long q0), .second, .val (.long q1), .second, .val (.long q2), .second, .val (.long q3), .second, .val (.long q4), .second, .val (.int p5), .val (.int pa), .val (.int pb), .val (.int pc), .val (.int pd), .val (.long a2), .second, .val (.long b2), .second, .unset, .unset, .unset, .unset, .unset, .unset, .unset, .unset] [(.int pc)])) (fun _ ks => XS.iload X0.here hx rfl (hb hby at_87) rfl ks) ?_
              have Jc2 : ∀ c2 : Int64, Dn p e below s 16 128 (Q0 Z q0 q1 q2 q3 q4 p5 ca cc vl h0 n0) (s₁.setTop (mkF m 102 #[.val (.long q0), .second, .val (.long q1), .second, .val (.long q2), .second, .val (.long q3), .second, .val (.long q4), .second, .val (.int p5), .val (.int pa), .val (.int pb), .val (.int pc), .val (.int pd), .val (.long a2), .second, .val (.long b2), .second, .unset, .unset, .unset, .unset, .unset, .unset, .unset, .unset] [(.long c2)])) := by
                intro c2
                refine Dn.by (U' := s₁.setTop (mkF m 104 #[.val (.long q0), .second, .val (.long q1), .second, .val (.long q2), .second, .val (.long q3), .second, .val (.long q4), .second, .val (.int p5), .val (.int pa), .val (.int pb), .val (.int pc), .val (.int pd), .val (.long a2), .second, .val (.long b2), .second, .val (.long c2), .second, .unset, .unset, .unset, .unset, .unset, .unset] [])) (fun _ ks => XS.lstore X0.here hx rfl (hb hby at_102) rfl (l' := #[.val (.long q0), .second, .val (.long q1), .second, .val (.long q2), .second, .val (.long q3), .second, .val (.long q4), .second, .val (.int p5), .val (.int pa), .val (.int pb), .val (.int pc), .val (.int pd), .val (.long a2), .second, .val (.long b2), .second, .val (.long c2), .second, .unset, .unset, .unset, .unset, .unset, .unset]) rfl ks) ?_
                refine Dn.by (U' := s₁.setTop (mkF m 106 #[.val (.long q0), .second, .val (.long q1), .second, .val (.long q2), .second, .val (.long q3), .second, .val (.long q4), .second, .val (.int p5), .val (.int pa), .val (.int pb), .val (.int pc), .val (.int pd), .val (.long a2), .second, .val (.long b2), .second, .val (.long c2), .second, .unset, .unset, .unset, .unset, .unset, .unset] [(.int pd)])) (fun _ ks => XS.iload X0.here hx rfl (hb hby at_104) rfl ks) ?_
                have Jd2 : ∀ d2 : Int64, Dn p e below s 16 128 (Q0 Z q0 q1 q2 q3 q4 p5 ca cc vl h0 n0) (s₁.setTop (mkF m 119 #[.val (.long q0), .second, .val (.long q1), .second, .val (.long q2), .second, .val (.long q3), .second, .val (.long q4), .second, .val (.int p5), .val (.int pa), .val (.int pb), .val (.int pc), .val (.int pd), .val (.long a2), .second, .val (.long b2), .second, .val (.long c2), .second, .unset, .unset, .unset, .unset, .unset, .unset] [(.long d2)])) := by
                  intro d2
                  refine Dn.by (U' := s₁.setTop (mkF m 121 #[.val (.long q0), .second, .val (.long q1), .second, .val (.long q2), .second, .val (.long q3), .second, .val (.long q4), .second, .val (.int p5), .val (.int pa), .val (.int pb), .val (.int pc), .val (.int pd), .val (.long a2), .second, .val (.long b2), .second, .val (.long c2), .second, .val (.long d2), .second, .unset, .unset, .unset, .unset] [])) (fun _ ks => XS.lstore X0.here hx rfl (hb hby at_119) rfl (l' := #[.val (.long q0), .second, .val (.long q1), .second, .val (.long q2), .second, .val (.long q3), .second, .val (.long q4), .second, .val (.int p5), .val (.int pa), .val (.int pb), .val (.int pc), .val (.int pd), .val (.long a2), .second, .val (.long b2), .second, .val (.long c2), .second, .val (.long d2), .second, .unset, .unset, .unset, .unset]) rfl ks) ?_
                  obtain ⟨T1, h1, X1, e1, E1, A1, D1, -, st1⟩ := newO X0 hx hZ hown (hw _ (List.mem_of_getElem? (i := 0) rfl)) (hw _ (List.mem_of_getElem? (i := 1) rfl)) (hw _ (List.mem_of_getElem? (i := 2) rfl)) e0 (g := (mkF m 121 #[.val (.long q0), .second, .val (.long q1), .second, .val (.long q2), .second, .val (.long q3), .second, .val (.long q4), .second, .val (.int p5), .val (.int pa), .val (.int pb), .val (.int pc), .val (.int pd), .val (.long a2), .second, .val (.long b2), .second, .val (.long c2), .second, .val (.long d2), .second, .unset, .unset, .unset, .unset] [])) rfl (hb hby at_121) (by decide) (by decide)
                  obtain ⟨b1, g1⟩ : ∃ z, z = h0.size := ⟨_, rfl⟩
                  rw [← g1] at A1 D1 st1
                  have g_b1 : n0 ≤ b1 := Nat.le_trans Z0 (Nat.le_of_eq g1.symm)
                  have sz_b1 : h0.size ≤ b1 := Nat.le_trans (Keep.refl h0 []).1 (Nat.le_of_eq g1.symm)
                  have K2 : Keep h0 h1 [] := ((Keep.refl h0 []).ext E1)
                  have z2 : n0 ≤ h1.size := (Nat.le_trans Z0 E1.1)
                  have O2 : Old Z n0 h1 := O0.ext E1
                  have F_retries_b1 : Fld Z h1 b1 "com/example/weaverbird/weaverbird/model/RetryCounts" "retries" "J" (.long (0 : Int64)) := D1 (Or.inr (hw _ (List.mem_of_getElem? (i := 10) rfl))) (ty := .long) (by decide)
                  have F_successes_b1 : Fld Z h1 b1 "com/example/weaverbird/weaverbird/model/RetryCounts" "successes" "J" (.long (0 : Int64)) := D1 (Or.inr (hw _ (List.mem_of_getElem? (i := 12) rfl))) (ty := .long) (by decide)
                  have F_exhausted_b1 : Fld Z h1 b1 "com/example/weaverbird/weaverbird/model/RetryCounts" "exhausted" "J" (.long (0 : Int64)) := D1 (Or.inr (hw _ (List.mem_of_getElem? (i := 14) rfl))) (ty := .long) (by decide)
                  have F_permanent_b1 : Fld Z h1 b1 "com/example/weaverbird/weaverbird/model/RetryCounts" "permanent" "J" (.long (0 : Int64)) := D1 (Or.inr (hw _ (List.mem_of_getElem? (i := 16) rfl))) (ty := .long) (by decide)
                  refine Dn.by (U' := T1.setTop (mkF m 124 #[.val (.long q0), .second, .val (.long q1), .second, .val (.long q2), .second, .val (.long q3), .second, .val (.long q4), .second, .val (.int p5), .val (.int pa), .val (.int pb), .val (.int pc), .val (.int pd), .val (.long a2), .second, .val (.long b2), .second, .val (.long c2), .second, .val (.long d2), .second, .unset, .unset, .unset, .unset] [(.ref b1)])) st1 ?_
                  refine Dn.by (U' := T1.setTop (mkF m 125 #[.val (.long q0), .second, .val (.long q1), .second, .val (.long q2), .second, .val (.long q3), .second, .val (.long q4), .second, .val (.int p5), .val (.int pa), .val (.int pb), .val (.int pc), .val (.int pd), .val (.long a2), .second, .val (.long b2), .second, .val (.long c2), .second, .val (.long d2), .second, .unset, .unset, .unset, .unset] [(.ref b1), (.ref b1)])) (fun _ ks => XS.dup X1.here hx rfl (hb hby at_124) rfl rfl ks) ?_
                  refine Dn.by (U' := T1.setTop (mkF m 126 #[.val (.long q0), .second, .val (.long q1), .second, .val (.long q2), .second, .val (.long q3), .second, .val (.long q4), .second, .val (.int p5), .val (.int pa), .val (.int pb), .val (.int pc), .val (.int pd), .val (.long a2), .second, .val (.long b2), .second, .val (.long c2), .second, .val (.long d2), .second, .unset, .unset, .unset, .unset] [(.long q0), (.ref b1), (.ref b1)])) (fun _ ks => XS.lloadN X1.here hx rfl (hb hby at_125) rfl ks) ?_
                  refine Dn.by (U' := T1.setTop (mkF m 127 #[.val (.long q0), .second, .val (.long q1), .second, .val (.long q2), .second, .val (.long q3), .second, .val (.long q4), .second, .val (.int p5), .val (.int pa), .val (.int pb), .val (.int pc), .val (.int pd), .val (.long a2), .second, .val (.long b2), .second, .val (.long c2), .second, .val (.long d2), .second, .unset, .unset, .unset, .unset] [(.long q1), (.long q0), (.ref b1), (.ref b1)])) (fun _ ks => XS.lloadN X1.here hx rfl (hb hby at_126) rfl ks) ?_
                  refine Dn.by (U' := T1.setTop (mkF m 129 #[.val (.long q0), .second, .val (.long q1), .second, .val (.long q2), .second, .val (.long q3), .second, .val (.long q4), .second, .val (.int p5), .val (.int pa), .val (.int pb), .val (.int pc), .val (.int pd), .val (.long a2), .second, .val (.long b2), .second, .val (.long c2), .second, .val (.long d2), .second, .unset, .unset, .unset, .unset] [(.long q2), (.long q1), (.long q0), (.ref b1), (.ref b1)])) (fun _ ks => XS.lload X1.here hx rfl (hb hby at_127) rfl ks) ?_
                  refine Dn.by (U' := T1.setTop (mkF m 131 #[.val (.long q0), .second, .val (.long q1), .second, .val (.long q2), .second, .val (.long q3), .second, .val (.long q4), .second, .val (.int p5), .val (.int pa), .val (.int pb), .val (.int pc), .val (.int pd), .val (.long a2), .second, .val (.long b2), .second, .val (.long c2), .second, .val (.long d2), .second, .unset, .unset, .unset, .unset] [(.long q3), (.long q2), (.long q1), (.long q0), (.ref b1), (.ref b1)])) (fun _ ks => XS.lload X1.here hx rfl (hb hby at_129) rfl ks) ?_
                  obtain ⟨_, _, ⟨T3, L3, k3, n3⟩, -, X3, ⟨Lc3, hQ3, l3, y3, z3⟩, st3⟩ := X1.specialBack hx (y := (⟨"com/example/weaverbird/weaverbird/model/RetryCounts", "<init>", "(JJJJ)V"⟩ : MethodName)) rfl hown (mvT hZ (hw _ (List.mem_of_getElem? (i := 3) rfl))) (mvT hZ (hw _ (List.mem_of_getElem? (i := 4) rfl))) (mvT hZ (hw _ (List.mem_of_getElem? (i := 5) rfl))) (by decide) (backOf (W := 1) (rm1 l Z a0 hw [] b1 q0 q1 q2 q3 ((.long (0 : Int64)) : Value) ((.long (0 : Int64)) : Value) ((.long (0 : Int64)) : Value) ((.long (0 : Int64)) : Value) h1 n0 z2 g_b1 A1 F_retries_b1 F_successes_b1 F_exhausted_b1 F_permanent_b1) hZ (hw _ (List.mem_of_getElem? (i := 5) rfl)) (hw _ (List.mem_of_getElem? (i := 2) rfl)) (by decide) (by decide)) (g := (mkF m 131 #[.val (.long q0), .second, .val (.long q1), .second, .val (.long q2), .second, .val (.long q3), .second, .val (.long q4), .second, .val (.int p5), .val (.int pa), .val (.int pb), .val (.int pc), .val (.int pd), .val (.long a2), .second, .val (.long b2), .second, .val (.long c2), .second, .val (.long d2), .second, .unset, .unset, .unset, .unset] [(.long q3), (.long q2), (.long q1), (.long q0), (.ref b1), (.ref b1)])) rfl (by rw [hml]; rfl) (Steps.refl _) (a := b1) (argsL := [(.long q0), (.long q1), (.long q2), (.long q3)]) (rest := [(.ref b1)]) (lenOf pd2 rfl) rfl (by show 2 * 0 + _ ≤ _; exact Nat.le_of_eq rfl) (hb hby at_131) (fun _ _ => ⟨rfl, e1, (by decide : 1 + 0 ≤ _), (by decide : 4 + 0 ≤ _)⟩)
                  dsimp only [Pt.U, Pt.locs, Pt.cells, Pt.slots] at X3 l3 y3 z3 st3 hQ3
                  rw [l3, y3, z3] at X3
                  obtain ⟨rfl, N3q, KK3, EE3, FF3_0, FF3_1, FF3_2, FF3_3⟩ := hQ3
                  have N3 := Fr.app N0 N3q
                  have K4 : Keep h0 T3.heap [] := (K2.trans KK3 (allS (Or.inr sz_b1) all0))
                  have z4 : n0 ≤ T3.heap.size := (Nat.le_trans z2 KK3.1)
                  have O4 : Old Z n0 T3.heap := O2.keep KK3 (allS g_b1 all0)
                  refine Dn.by (U' := T3.setTop (mkF m 134 #[.val (.long q0), .second, .val (.long q1), .second, .val (.long q2), .second, .val (.long q3), .second, .val (.long q4), .second, .val (.int p5), .val (.int pa), .val (.int pb), .val (.int pc), .val (.int pd), .val (.long a2), .second, .val (.long b2), .second, .val (.long c2), .second, .val (.long d2), .second, .unset, .unset, .unset, .unset] [(.ref b1)])) (fun _ ks => st3.trans ks) ?_
                  refine Dn.by (U' := T3.setTop (mkF m 136 #[.val (.long q0), .second, .val (.long q1), .second, .val (.long q2), .second, .val (.long q3), .second, .val (.long q4), .second, .val (.int p5), .val (.int pa), .val (.int pb), .val (.int pc), .val (.int pd), .val (.long a2), .second, .val (.long b2), .second, .val (.long c2), .second, .val (.long d2), .second, .val (.ref b1), .unset, .unset, .unset] [])) (fun _ ks => XS.astore X3.here hx rfl (hb hby at_134) rfl rfl (l' := #[.val (.long q0), .second, .val (.long q1), .second, .val (.long q2), .second, .val (.long q3), .second, .val (.long q4), .second, .val (.int p5), .val (.int pa), .val (.int pb), .val (.int pc), .val (.int pd), .val (.long a2), .second, .val (.long b2), .second, .val (.long c2), .second, .val (.long d2), .second, .val (.ref b1), .unset, .unset, .unset]) rfl ks) ?_
                  obtain ⟨T5, h5, X5, e5, E5, A5, D5, -, st5⟩ := newO X3 hx hZ hown (hw _ (List.mem_of_getElem? (i := 0) rfl)) (hw _ (List.mem_of_getElem? (i := 1) rfl)) (hw _ (List.mem_of_getElem? (i := 2) rfl)) rfl (g := (mkF m 136 #[.val (.long q0), .second, .val (.long q1), .second, .val (.long q2), .second, .val (.long q3), .second, .val (.long q4), .second, .val (.int p5), .val (.int pa), .val (.int pb), .val (.int pc), .val (.int pd), .val (.long a2), .second, .val (.long b2), .second, .val (.long c2), .second, .val (.long d2), .second, .val (.ref b1), .unset, .unset, .unset] [])) rfl (hb hby at_136) (by decide) (by decide)
                  obtain ⟨b5, g5⟩ : ∃ z, z = T3.heap.size := ⟨_, rfl⟩
                  rw [← g5] at A5 D5 st5
                  have g_b5 : n0 ≤ b5 := Nat.le_trans z4 (Nat.le_of_eq g5.symm)
                  have sz_b5 : h0.size ≤ b5 := Nat.le_trans K4.1 (Nat.le_of_eq g5.symm)
                  have ne_b1_b5 : b1 ≠ b5 := Nat.ne_of_lt (Nat.lt_of_lt_of_le (A1.keep KK3).lt (Nat.le_of_eq g5.symm))
                  have K6 : Keep h0 h5 [] := (K4.ext E5)
                  have z6 : n0 ≤ h5.size := (Nat.le_trans z4 E5.1)
                  have O6 : Old Z n0 h5 := O4.ext E5
                  have F_retries_b5 : Fld Z h5 b5 "com/example/weaverbird/weaverbird/model/RetryCounts" "retries" "J" (.long (0 : Int64)) := D5 (Or.inr (hw _ (List.mem_of_getElem? (i := 10) rfl))) (ty := .long) (by decide)
                  have F_successes_b5 : Fld Z h5 b5 "com/example/weaverbird/weaverbird/model/RetryCounts" "successes" "J" (.long (0 : Int64)) := D5 (Or.inr (hw _ (List.mem_of_getElem? (i := 12) rfl))) (ty := .long) (by decide)
                  have F_exhausted_b5 : Fld Z h5 b5 "com/example/weaverbird/weaverbird/model/RetryCounts" "exhausted" "J" (.long (0 : Int64)) := D5 (Or.inr (hw _ (List.mem_of_getElem? (i := 14) rfl))) (ty := .long) (by decide)
                  have F_permanent_b5 : Fld Z h5 b5 "com/example/weaverbird/weaverbird/model/RetryCounts" "permanent" "J" (.long (0 : Int64)) := D5 (Or.inr (hw _ (List.mem_of_getElem? (i := 16) rfl))) (ty := .long) (by decide)
                  refine Dn.by (U' := T5.setTop (mkF m 139 #[.val (.long q0), .second, .val (.long q1), .second, .val (.long q2), .second, .val (.long q3), .second, .val (.long q4), .second, .val (.int p5), .val (.int pa), .val (.int pb), .val (.int pc), .val (.int pd), .val (.long a2), .second, .val (.long b2), .second, .val (.long c2), .second, .val (.long d2), .second, .val (.ref b1), .unset, .unset, .unset] [(.ref b5)])) st5 ?_
                  refine Dn.by (U' := T5.setTop (mkF m 140 #[.val (.long q0), .second, .val (.long q1), .second, .val (.long q2), .second, .val (.long q3), .second, .val (.long q4), .second, .val (.int p5), .val (.int pa), .val (.int pb), .val (.int pc), .val (.int pd), .val (.long a2), .second, .val (.long b2), .second, .val (.long c2), .second, .val (.long d2), .second, .val (.ref b1), .unset, .unset, .unset] [(.ref b5), (.ref b5)])) (fun _ ks => XS.dup X5.here hx rfl (hb hby at_139) rfl rfl ks) ?_
                  refine Dn.by (U' := T5.setTop (mkF m 142 #[.val (.long q0), .second, .val (.long q1), .second, .val (.long q2), .second, .val (.long q3), .second, .val (.long q4), .second, .val (.int p5), .val (.int pa), .val (.int pb), .val (.int pc), .val (.int pd), .val (.long a2), .second, .val (.long b2), .second, .val (.long c2), .second, .val (.long d2), .second, .val (.ref b1), .unset, .unset, .unset] [(.long a2), (.ref b5), (.ref b5)])) (fun _ ks => XS.lload X5.here hx rfl (hb hby at_140) rfl ks) ?_
                  refine Dn.by (U' := T5.setTop (mkF m 144 #[.val (.long q0), .second, .val (.long q1), .second, .val (.long q2), .second, .val (.long q3), .second, .val (.long q4), .second, .val (.int p5), .val (.int pa), .val (.int pb), .val (.int pc), .val (.int pd), .val (.long a2), .second, .val (.long b2), .second, .val (.long c2), .second, .val (.long d2), .second, .val (.ref b1), .unset, .unset, .unset] [(.long b2), (.long a2), (.ref b5), (.ref b5)])) (fun _ ks => XS.lload X5.here hx rfl (hb hby at_142) rfl ks) ?_
                  refine Dn.by (U' := T5.setTop (mkF m 146 #[.val (.long q0), .second, .val (.long q1), .second, .val (.long q2), .second, .val (.long q3), .second, .val (.long q4), .second, .val (.int p5), .val (.int pa), .val (.int pb), .val (.int pc), .val (.int pd), .val (.long a2), .second, .val (.long b2), .second, .val (.long c2), .second, .val (.long d2), .second, .val (.ref b1), .unset, .unset, .unset] [(.long c2), (.long b2), (.long a2), (.ref b5), (.ref b5)])) (fun _ ks => XS.lload X5.here hx rfl (hb hby at_144) rfl ks) ?_
                  refine Dn.by (U' := T5.setTop (mkF m 148 #[.val (.long q0), .second, .val (.long q1), .second, .val (.long q2), .second, .val (.long q3), .second, .val (.long q4), .second, .val (.int p5), .val (.int pa), .val (.int pb), .val (.int pc), .val (.int pd), .val (.long a2), .second, .val (.long b2), .second, .val (.long c2), .second, .val (.long d2), .second, .val (.ref b1), .unset, .unset, .unset] [(.long d2), (.long c2), (.long b2), (.long a2), (.ref b5), (.ref b5)])) (fun _ ks => XS.lload X5.here hx rfl (hb hby at_146) rfl ks) ?_
                  obtain ⟨_, _, ⟨T7, L7, k7, n7⟩, -, X7, ⟨Lc7, hQ7, l7, y7, z7⟩, st7⟩ := X5.specialBack hx (y := (⟨"com/example/weaverbird/weaverbird/model/RetryCounts", "<init>", "(JJJJ)V"⟩ : MethodName)) rfl hown (mvT hZ (hw _ (List.mem_of_getElem? (i := 3) rfl))) (mvT hZ (hw _ (List.mem_of_getElem? (i := 4) rfl))) (mvT hZ (hw _ (List.mem_of_getElem? (i := 5) rfl))) (by decide) (backOf (W := 1) (rm1 l Z a0 hw [] b5 a2 b2 c2 d2 ((.long (0 : Int64)) : Value) ((.long (0 : Int64)) : Value) ((.long (0 : Int64)) : Value) ((.long (0 : Int64)) : Value) h5 n0 z6 g_b5 A5 F_retries_b5 F_successes_b5 F_exhausted_b5 F_permanent_b5) hZ (hw _ (List.mem_of_getElem? (i := 5) rfl)) (hw _ (List.mem_of_getElem? (i := 2) rfl)) (by decide) (by decide)) (g := (mkF m 148 #[.val (.long q0), .second, .val (.long q1), .second, .val (.long q2), .second, .val (.long q3), .second, .val (.long q4), .second, .val (.int p5), .val (.int pa), .val (.int pb), .val (.int pc), .val (.int pd), .val (.long a2), .second, .val (.long b2), .second, .val (.long c2), .second, .val (.long d2), .second, .val (.ref b1), .unset, .unset, .unset] [(.long d2), (.long c2), (.long b2), (.long a2), (.ref b5), (.ref b5)])) rfl (by rw [hml]; rfl) (Steps.refl _) (a := b5) (argsL := [(.long a2), (.long b2), (.long c2), (.long d2)]) (rest := [(.ref b5)]) (lenOf pd2 rfl) rfl (by show 2 * 0 + _ ≤ _; exact Nat.le_of_eq rfl) (hb hby at_148) (fun _ _ => ⟨rfl, e5, (by decide : 2 + 0 ≤ _), (by decide : 8 + 0 ≤ _)⟩)
                  dsimp only [Pt.U, Pt.locs, Pt.cells, Pt.slots] at X7 l7 y7 z7 st7 hQ7
                  rw [l7, y7, z7] at X7
                  obtain ⟨rfl, N7q, KK7, EE7, FF7_0, FF7_1, FF7_2, FF7_3⟩ := hQ7
                  have N7 := Fr.app N3 N7q
                  have K8 : Keep h0 T7.heap [] := (K6.trans KK7 (allS (Or.inr sz_b5) all0))
                  have z8 : n0 ≤ T7.heap.size := (Nat.le_trans z6 KK7.1)
                  have O8 : Old Z n0 T7.heap := O6.keep KK7 (allS g_b5 all0)
                  refine Dn.by (U' := T7.setTop (mkF m 151 #[.val (.long q0), .second, .val (.long q1), .second, .val (.long q2), .second, .val (.long q3), .second, .val (.long q4), .second, .val (.int p5), .val (.int pa), .val (.int pb), .val (.int pc), .val (.int pd), .val (.long a2), .second, .val (.long b2), .second, .val (.long c2), .second, .val (.long d2), .second, .val (.ref b1), .unset, .unset, .unset] [(.ref b5)])) (fun _ ks => st7.trans ks) ?_
                  refine Dn.by (U' := T7.setTop (mkF m 153 #[.val (.long q0), .second, .val (.long q1), .second, .val (.long q2), .second, .val (.long q3), .second, .val (.long q4), .second, .val (.int p5), .val (.int pa), .val (.int pb), .val (.int pc), .val (.int pd), .val (.long a2), .second, .val (.long b2), .second, .val (.long c2), .second, .val (.long d2), .second, .val (.ref b1), .val (.ref b5), .unset, .unset] [])) (fun _ ks => XS.astore X7.here hx rfl (hb hby at_151) rfl rfl (l' := #[.val (.long q0), .second, .val (.long q1), .second, .val (.long q2), .second, .val (.long q3), .second, .val (.long q4), .second, .val (.int p5), .val (.int pa), .val (.int pb), .val (.int pc), .val (.int pd), .val (.long a2), .second, .val (.long b2), .second, .val (.long c2), .second, .val (.long d2), .second, .val (.ref b1), .val (.ref b5), .unset, .unset]) rfl ks) ?_
                  refine Dn.by (U' := T7.setTop (mkF m 155 #[.val (.long q0), .second, .val (.long q1), .second, .val (.long q2), .second, .val (.long q3), .second, .val (.long q4), .second, .val (.int p5), .val (.int pa), .val (.int pb), .val (.int pc), .val (.int pd), .val (.long a2), .second, .val (.long b2), .second, .val (.long c2), .second, .val (.long d2), .second, .val (.ref b1), .val (.ref b5), .unset, .unset] [(.int p5)])) (fun _ ks => XS.iload X7.here hx rfl (hb hby at_153) rfl ks) ?_
                  refine Dn.by (U' := T7.setTop (mkF m 156 #[.val (.long q0), .second, .val (.long q1), .second, .val (.long q2), .second, .val (.long q3), .second, .val (.long q4), .second, .val (.int p5), .val (.int pa), .val (.int pb), .val (.int pc), .val (.int pd), .val (.long a2), .second, .val (.long b2), .second, .val (.long c2), .second, .val (.long d2), .second, .val (.ref b1), .val (.ref b5), .unset, .unset] [(.int (4 : Int32)), (.int p5)])) (fun _ ks => XS.iconst X7.here hx rfl (hb hby at_155)  ks) ?_
                  refine Dn.by (U' := T7.setTop (mkF m 157 #[.val (.long q0), .second, .val (.long q1), .second, .val (.long q2), .second, .val (.long q3), .second, .val (.long q4), .second, .val (.int p5), .val (.int pa), .val (.int pb), .val (.int pc), .val (.int pd), .val (.long a2), .second, .val (.long b2), .second, .val (.long c2), .second, .val (.long d2), .second, .val (.ref b1), .val (.ref b5), .unset, .unset] [(.int ((p5.toUInt32 >>> ((4 : Int32) &&& 31).toUInt32).toInt32))])) (fun _ ks => XS.iushr X7.here hx rfl (hb hby at_156) rfl ks) ?_
                  refine Dn.by (U' := T7.setTop (mkF m 159 #[.val (.long q0), .second, .val (.long q1), .second, .val (.long q2), .second, .val (.long q3), .second, .val (.long q4), .second, .val (.int p5), .val (.int pa), .val (.int pb), .val (.int pc), .val (.int pd), .val (.long a2), .second, .val (.long b2), .second, .val (.long c2), .second, .val (.long d2), .second, .val (.ref b1), .val (.ref b5), .unset, .unset] [(.int (7 : Int32)), (.int ((p5.toUInt32 >>> ((4 : Int32) &&& 31).toUInt32).toInt32))])) (fun _ ks => XS.bipush X7.here hx rfl (hb hby at_157)  ks) ?_
                  refine Dn.by (U' := T7.setTop (mkF m 160 #[.val (.long q0), .second, .val (.long q1), .second, .val (.long q2), .second, .val (.long q3), .second, .val (.long q4), .second, .val (.int p5), .val (.int pa), .val (.int pb), .val (.int pc), .val (.int pd), .val (.long a2), .second, .val (.long b2), .second, .val (.long c2), .second, .val (.long d2), .second, .val (.ref b1), .val (.ref b5), .unset, .unset] [(.int (((p5.toUInt32 >>> ((4 : Int32) &&& 31).toUInt32).toInt32) &&& (7 : Int32)))])) (fun _ ks => XS.iand X7.here hx rfl (hb hby at_159) rfl ks) ?_
                  generalize h_md : (((p5.toUInt32 >>> ((4 : Int32) &&& 31).toUInt32).toInt32) &&& (7 : Int32)) = md
                  refine Dn.by (U' := T7.setTop (mkF m 162 #[.val (.long q0), .second, .val (.long q1), .second, .val (.long q2), .second, .val (.long q3), .second, .val (.long q4), .second, .val (.int p5), .val (.int pa), .val (.int pb), .val (.int pc), .val (.int pd), .val (.long a2), .second, .val (.long b2), .second, .val (.long c2), .second, .val (.long d2), .second, .val (.ref b1), .val (.ref b5), .val (.int md), .unset] [])) (fun _ ks => XS.istore X7.here hx rfl (hb hby at_160) rfl (l' := #[.val (.long q0), .second, .val (.long q1), .second, .val (.long q2), .second, .val (.long q3), .second, .val (.long q4), .second, .val (.int p5), .val (.int pa), .val (.int pb), .val (.int pc), .val (.int pd), .val (.long a2), .second, .val (.long b2), .second, .val (.long c2), .second, .val (.long d2), .second, .val (.ref b1), .val (.ref b5), .val (.int md), .unset]) rfl ks) ?_
                  refine Dn.by (U' := T7.setTop (mkF m 164 #[.val (.long q0), .second, .val (.long q1), .second, .val (.long q2), .second, .val (.long q3), .second, .val (.long q4), .second, .val (.int p5), .val (.int pa), .val (.int pb), .val (.int pc), .val (.int pd), .val (.long a2), .second, .val (.long b2), .second, .val (.long c2), .second, .val (.long d2), .second, .val (.ref b1), .val (.ref b5), .val (.int md), .unset] [(.int md)])) (fun _ ks => XS.iload X7.here hx rfl (hb hby at_162) rfl ks) ?_
                  refine Dn.by (U' := T7.setTop (mkF m 165 #[.val (.long q0), .second, .val (.long q1), .second, .val (.long q2), .second, .val (.long q3), .second, .val (.long q4), .second, .val (.int p5), .val (.int pa), .val (.int pb), .val (.int pc), .val (.int pd), .val (.long a2), .second, .val (.long b2), .second, .val (.long c2), .second, .val (.long d2), .second, .val (.ref b1), .val (.ref b5), .val (.int md), .unset] [(.int (1 : Int32)), (.int md)])) (fun _ ks => XS.iconst X7.here hx rfl (hb hby at_164)  ks) ?_
                  by_cases c165_9 : md = (1 : Int32)
                  ·
                    refine Dn.by (U' := T7.setTop (mkF m 168 #[.val (.long q0), .second, .val (.long q1), .second, .val (.long q2), .second, .val (.long q3), .second, .val (.long q4), .second, .val (.int p5), .val (.int pa), .val (.int pb), .val (.int pc), .val (.int pd), .val (.long a2), .second, .val (.long b2), .second, .val (.long c2), .second, .val (.long d2), .second, .val (.ref b1), .val (.ref b5), .val (.int md), .unset] [])) (fun _ ks => XS.icmpNo X7.here hx rfl (hb hby at_165) rfl (teq c165_9).2 ks) ?_
                    refine Dn.by (U' := T7.setTop (mkF m 170 #[.val (.long q0), .second, .val (.long q1), .second, .val (.long q2), .second, .val (.long q3), .second, .val (.long q4), .second, .val (.int p5), .val (.int pa), .val (.int pb), .val (.int pc), .val (.int pd), .val (.long a2), .second, .val (.long b2), .second, .val (.long c2), .second, .val (.long d2), .second, .val (.ref b1), .val (.ref b5), .val (.int md), .unset] [(.ref b1)])) (fun _ ks => XS.aload X7.here hx rfl (hb hby at_168) rfl rfl ks) ?_
                    refine Dn.by (U' := T7.setTop (mkF m 171 #[.val (.long q0), .second, .val (.long q1), .second, .val (.long q2), .second, .val (.long q3), .second, .val (.long q4), .second, .val (.int p5), .val (.int pa), .val (.int pb), .val (.int pc), .val (.int pd), .val (.long a2), .second, .val (.long b2), .second, .val (.long c2), .second, .val (.long d2), .second, .val (.ref b1), .val (.ref b5), .val (.int md), .unset] [.null, (.ref b1)])) (fun _ ks => XS.aconstNull X7.here hx rfl (hb hby at_170)  ks) ?_
                    obtain ⟨cq10, kq10, qa10, qb10, qc10⟩ := isOf hZ rfl (((A1.keep KK3).ext E5).keep KK7)
                    obtain ⟨_, _, ⟨T10, L10, k10, n10⟩, -, X10, ⟨Lc10, hQ10, l10, y10, z10⟩, st10⟩ := X7.virtualBack hx (y := (⟨"com/example/weaverbird/weaverbird/model/RetryCounts", "equals", "(Ljava/lang/Object;)Z"⟩ : MethodName)) (z := (⟨"com/example/weaverbird/weaverbird/model/RetryCounts", "equals", "(Ljava/lang/Object;)Z"⟩ : MethodName)) hown (mvT hZ (hw _ (List.mem_of_getElem? (i := 17) rfl))) (mvT hZ (hw _ (List.mem_of_getElem? (i := 18) rfl))) (notFace_of_selects (args := #[]) (mvT hZ (hw _ (List.mem_of_getElem? (i := 20) rfl)))) (mvT hZ (hw _ (List.mem_of_getElem? (i := 20) rfl))) (mvT hZ (hw _ (List.mem_of_getElem? (i := 19) rfl))) (by decide) (backOf (W := 0) (rm3n l Z a0 hw [] b1  T7.heap n0 z8 ) hZ (hw _ (List.mem_of_getElem? (i := 21) rfl)) (hw _ (List.mem_of_getElem? (i := 2) rfl)) (by decide) (by decide)) qa10 qc10 (g := (mkF m 171 #[.val (.long q0), .second, .val (.long q1), .second, .val (.long q2), .second, .val (.long q3), .second, .val (.long q4), .second, .val (.int p5), .val (.int pa), .val (.int pb), .val (.int pc), .val (.int pd), .val (.long a2), .second, .val (.long b2), .second, .val (.long c2), .second, .val (.long d2), .second, .val (.ref b1), .val (.ref b5), .val (.int md), .unset] [.null, (.ref b1)])) rfl (by rw [hml]; rfl) (Steps.refl _) (argsL := [.null]) (rest := []) (lenOf pd3 rfl) rfl (by show 2 * 0 + _ ≤ _; exact Nat.le_of_eq rfl) (hb hby at_171) (fun _ _ => ⟨rfl, rfl, (by decide : 2 + 0 ≤ _), (by decide : 8 + 0 ≤ _)⟩)
                    dsimp only [Pt.U, Pt.locs, Pt.cells, Pt.slots] at X10 l10 y10 z10 st10 hQ10
                    rw [l10, y10, z10] at X10
                    obtain ⟨rfl, N10q, e10⟩ := hQ10
                    have N10 := Fr.app N7 N10q
                    refine Dn.by (U' := T10.setTop (mkF m 174 #[.val (.long q0), .second, .val (.long q1), .second, .val (.long q2), .second, .val (.long q3), .second, .val (.long q4), .second, .val (.int p5), .val (.int pa), .val (.int pb), .val (.int pc), .val (.int pd), .val (.long a2), .second, .val (.long b2), .second, .val (.long c2), .second, .val (.long d2), .second, .val (.ref b1), .val (.ref b5), .val (.int md), .unset] [(.int (0 : Int32))])) (fun _ ks => st10.trans ks) ?_
                    refine Dn.by (U' := T10.setTop (mkF m 177 #[.val (.long q0), .second, .val (.long q1), .second, .val (.long q2), .second, .val (.long q3), .second, .val (.long q4), .second, .val (.int p5), .val (.int pa), .val (.int pb), .val (.int pc), .val (.int pd), .val (.long a2), .second, .val (.long b2), .second, .val (.long c2), .second, .val (.long d2), .second, .val (.ref b1), .val (.ref b5), .val (.int md), .unset] [])) (fun _ ks => XS.ifNo X10.here hx rfl (hb hby at_174) rfl (by decide) ks) ?_
                    refine Dn.by (U' := T10.setTop (mkF m 178 #[.val (.long q0), .second, .val (.long q1), .second, .val (.long q2), .second, .val (.long q3), .second, .val (.long q4), .second, .val (.int p5), .val (.int pa), .val (.int pb), .val (.int pc), .val (.int pd), .val (.long a2), .second, .val (.long b2), .second, .val (.long c2), .second, .val (.long d2), .second, .val (.ref b1), .val (.ref b5), .val (.int md), .unset] [(.int (1 : Int32))])) (fun _ ks => XS.iconst X10.here hx rfl (hb hby at_177)  ks) ?_
                    refine Dn.by (U' := T10.setTop (mkF m 182 #[.val (.long q0), .second, .val (.long q1), .second, .val (.long q2), .second, .val (.long q3), .second, .val (.long q4), .second, .val (.int p5), .val (.int pa), .val (.int pb), .val (.int pc), .val (.int pd), .val (.long a2), .second, .val (.long b2), .second, .val (.long c2), .second, .val (.long d2), .second, .val (.ref b1), .val (.ref b5), .val (.int md), .unset] [(.int (1 : Int32))])) (fun _ ks => XS.goto X10.here hx rfl (pc0 := 178) (pc' := 182) rfl (hb hby at_178) (by decide) (by decide) ks) ?_
                    refine Dn.out X10 (v := (some (.int (1 : Int32)))) (fun h => by rw [Bd.returns] at h; cases h) (BodyLoose.notSynchronized Bd) (fun _ hr => retN X10 hx (t := .boolean) Bd.returns (by simp) (hb hby at_182) hr) (by decide) (by decide) ?_
                    rw [e10]
                    exact ⟨rfl, N10⟩
                  ·
                    refine Dn.by (U' := T7.setTop (mkF m 183 #[.val (.long q0), .second, .val (.long q1), .second, .val (.long q2), .second, .val (.long q3), .second, .val (.long q4), .second, .val (.int p5), .val (.int pa), .val (.int pb), .val (.int pc), .val (.int pd), .val (.long a2), .second, .val (.long b2), .second, .val (.long c2), .second, .val (.long d2), .second, .val (.ref b1), .val (.ref b5), .val (.int md), .unset] [])) (fun _ ks => XS.icmpYes X7.here hx rfl (pc0 := 165) (pc' := 183) rfl (hb hby at_165) rfl (feq c165_9).2 (by decide) (by decide) ks) ?_
                    refine Dn.by (U' := T7.setTop (mkF m 185 #[.val (.long q0), .second, .val (.long q1), .second, .val (.long q2), .second, .val (.long q3), .second, .val (.long q4), .second, .val (.int p5), .val (.int pa), .val (.int pb), .val (.int pc), .val (.int pd), .val (.long a2), .second, .val (.long b2), .second, .val (.long c2), .second, .val (.long d2), .second, .val (.ref b1), .val (.ref b5), .val (.int md), .unset] [(.int md)])) (fun _ ks => XS.iload X7.here hx rfl (hb hby at_183) rfl ks) ?_
                    refine Dn.by (U' := T7.setTop (mkF m 186 #[.val (.long q0), .second, .val (.long q1), .second, .val (.long q2), .second, .val (.long q3), .second, .val (.long q4), .second, .val (.int p5), .val (.int pa), .val (.int pb), .val (.int pc), .val (.int pd), .val (.long a2), .second, .val (.long b2), .second, .val (.long c2), .second, .val (.long d2), .second, .val (.ref b1), .val (.ref b5), .val (.int md), .unset] [(.int (2 : Int32)), (.int md)])) (fun _ ks => XS.iconst X7.here hx rfl (hb hby at_185)  ks) ?_
                    by_cases c186_11 : md = (2 : Int32)
                    ·
                      refine Dn.by (U' := T7.setTop (mkF m 189 #[.val (.long q0), .second, .val (.long q1), .second, .val (.long q2), .second, .val (.long q3), .second, .val (.long q4), .second, .val (.int p5), .val (.int pa), .val (.int pb), .val (.int pc), .val (.int pd), .val (.long a2), .second, .val (.long b2), .second, .val (.long c2), .second, .val (.long d2), .second, .val (.ref b1), .val (.ref b5), .val (.int md), .unset] [])) (fun _ ks => XS.icmpNo X7.here hx rfl (hb hby at_186) rfl (teq c186_11).2 ks) ?_
                      refine Dn.by (U' := T7.setTop (mkF m 191 #[.val (.long q0), .second, .val (.long q1), .second, .val (.long q2), .second, .val (.long q3), .second, .val (.long q4), .second, .val (.int p5), .val (.int pa), .val (.int pb), .val (.int pc), .val (.int pd), .val (.long a2), .second, .val (.long b2), .second, .val (.long c2), .second, .val (.long d2), .second, .val (.ref b1), .val (.ref b5), .val (.int md), .unset] [(.ref b1)])) (fun _ ks => XS.aload X7.here hx rfl (hb hby at_189) rfl rfl ks) ?_
                      refine Dn.by (U' := T7.setTop (mkF m 192 #[.val (.long q0), .second, .val (.long q1), .second, .val (.long q2), .second, .val (.long q3), .second, .val (.long q4), .second, .val (.int p5), .val (.int pa), .val (.int pb), .val (.int pc), .val (.int pd), .val (.long a2), .second, .val (.long b2), .second, .val (.long c2), .second, .val (.long d2), .second, .val (.ref b1), .val (.ref b5), .val (.int md), .unset] [(.long q0), (.ref b1)])) (fun _ ks => XS.lloadN X7.here hx rfl (hb hby at_191) rfl ks) ?_
                      obtain ⟨_, _, ⟨T12, L12, k12, n12⟩, -, X12, ⟨Lc12, hQ12, l12, y12, z12⟩, st12⟩ := Jvm.LawKit.callS X7 hx (y := (⟨"java/lang/Long", "valueOf", "(J)Ljava/lang/Long;"⟩ : MethodName)) hown (mvT hZ (hw _ (List.mem_of_getElem? (i := 24) rfl))) (mvT hZ (hw _ (List.mem_of_getElem? (i := 25) rfl))) (mvT hZ (hw _ (List.mem_of_getElem? (i := 26) rfl))) (mvT hZ (hw _ (List.mem_of_getElem? (i := 27) rfl))) (by decide) (backOf (W := 1) (rm4 l Z a0 hw [] q0  T7.heap n0 z8 O8 ca cc vl S_ca BX) hZ (hw _ (List.mem_of_getElem? (i := 27) rfl)) (hw _ (List.mem_of_getElem? (i := 26) rfl)) (by decide) (by decide)) (g := (mkF m 192 #[.val (.long q0), .second, .val (.long q1), .second, .val (.long q2), .second, .val (.long q3), .second, .val (.long q4), .second, .val (.int p5), .val (.int pa), .val (.int pb), .val (.int pc), .val (.int pd), .val (.long a2), .second, .val (.long b2), .second, .val (.long c2), .second, .val (.long d2), .second, .val (.ref b1), .val (.ref b5), .val (.int md), .unset] [(.long q0), (.ref b1)])) rfl (by rw [hml]; rfl) (argsL := [(.long q0)]) (rest := [(.ref b1)]) (lenOf pd4 rfl) rfl (by show 2 * 0 + _ ≤ _; exact Nat.le_of_eq rfl) (hb hby at_192) (fun _ _ => ⟨rfl, rfl, (by decide : 2 + 1 ≤ _), (by decide : 8 + 1 ≤ _)⟩)
                      dsimp only [Pt.U, Pt.locs, Pt.cells, Pt.slots] at X12 l12 y12 z12 st12 hQ12
                      rw [l12, y12, z12] at X12
                      obtain ⟨b12, rfl, N12q, KK12, EE12⟩ := hQ12
                      have N12 := Fr.app N7 N12q
                      have K13 : Keep h0 T12.heap [] := (K8.trans KK12 all0)
                      have z13 : n0 ≤ T12.heap.size := (Nat.le_trans z8 KK12.1)
                      have O13 : Old Z n0 T12.heap := O8.keep KK12 all0
                      refine Dn.by (U' := T12.setTop (mkF m 195 #[.val (.long q0), .second, .val (.long q1), .second, .val (.long q2), .second, .val (.long q3), .second, .val (.long q4), .second, .val (.int p5), .val (.int pa), .val (.int pb), .val (.int pc), .val (.int pd), .val (.long a2), .second, .val (.long b2), .second, .val (.long c2), .second, .val (.long d2), .second, .val (.ref b1), .val (.ref b5), .val (.int md), .unset] [(.ref b12), (.ref b1)])) st12 ?_
                      obtain ⟨cq14, kq14, qa14, qb14, qc14⟩ := isOf hZ rfl ((((A1.keep KK3).ext E5).keep KK7).keep KK12)
                      obtain ⟨_, _, ⟨T14, L14, k14, n14⟩, -, X14, ⟨Lc14, hQ14, l14, y14, z14⟩, st14⟩ := X12.virtualBack hx (y := (⟨"com/example/weaverbird/weaverbird/model/RetryCounts", "equals", "(Ljava/lang/Object;)Z"⟩ : MethodName)) (z := (⟨"com/example/weaverbird/weaverbird/model/RetryCounts", "equals", "(Ljava/lang/Object;)Z"⟩ : MethodName)) hown (mvT hZ (hw _ (List.mem_of_getElem? (i := 17) rfl))) (mvT hZ (hw _ (List.mem_of_getElem? (i := 18) rfl))) (notFace_of_selects (args := #[]) (mvT hZ (hw _ (List.mem_of_getElem? (i := 20) rfl)))) (mvT hZ (hw _ (List.mem_of_getElem? (i := 20) rfl))) (mvT hZ (hw _ (List.mem_of_getElem? (i := 19) rfl))) (by decide) (backOf (W := 0) (rm3l l Z a0 hw [] b1 b12  T12.heap n0 z13 EE12) hZ (hw _ (List.mem_of_getElem? (i := 21) rfl)) (hw _ (List.mem_of_getElem? (i := 2) rfl)) (by decide) (by decide)) qa14 qc14 (g := (mkF m 195 #[.val (.long q0), .second, .val (.long q1), .second, .val (.long q2), .second, .val (.long q3), .second, .val (.long q4), .second, .val (.int p5), .val (.int pa), .val (.int pb), .val (.int pc), .val (.int pd), .val (.long a2), .second, .val (.long b2), .second, .val (.long c2), .second, .val (.long d2), .second, .val (.ref b1), .val (.ref b5), .val (.int md), .unset] [(.ref b12), (.ref b1)])) rfl (by rw [hml]; rfl) (Steps.refl _) (argsL := [(.ref b12)]) (rest := []) (lenOf pd3 rfl) rfl (by show 2 * 0 + _ ≤ _; exact Nat.le_of_eq rfl) (hb hby at_195) (fun _ _ => ⟨rfl, rfl, (by decide : 3 + 0 ≤ _), (by decide : 9 + 0 ≤ _)⟩)
                      dsimp only [Pt.U, Pt.locs, Pt.cells, Pt.slots] at X14 l14 y14 z14 st14 hQ14
                      rw [l14, y14, z14] at X14
                      obtain ⟨rfl, N14q, e14⟩ := hQ14
                      have N14 := Fr.app N12 N14q
                      refine Dn.by (U' := T14.setTop (mkF m 198 #[.val (.long q0), .second, .val (.long q1), .second, .val (.long q2), .second, .val (.long q3), .second, .val (.long q4), .second, .val (.int p5), .val (.int pa), .val (.int pb), .val (.int pc), .val (.int pd), .val (.long a2), .second, .val (.long b2), .second, .val (.long c2), .second, .val (.long d2), .second, .val (.ref b1), .val (.ref b5), .val (.int md), .unset] [(.int (0 : Int32))])) (fun _ ks => st14.trans ks) ?_
                      refine Dn.by (U' := T14.setTop (mkF m 201 #[.val (.long q0), .second, .val (.long q1), .second, .val (.long q2), .second, .val (.long q3), .second, .val (.long q4), .second, .val (.int p5), .val (.int pa), .val (.int pb), .val (.int pc), .val (.int pd), .val (.long a2), .second, .val (.long b2), .second, .val (.long c2), .second, .val (.long d2), .second, .val (.ref b1), .val (.ref b5), .val (.int md), .unset] [])) (fun _ ks => XS.ifNo X14.here hx rfl (hb hby at_198) rfl (by decide) ks) ?_
                      refine Dn.by (U' := T14.setTop (mkF m 202 #[.val (.long q0), .second, .val (.long q1), .second, .val (.long q2), .second, .val (.long q3), .second, .val (.long q4), .second, .val (.int p5), .val (.int pa), .val (.int pb), .val (.int pc), .val (.int pd), .val (.long a2), .second, .val (.long b2), .second, .val (.long c2), .second, .val (.long d2), .second, .val (.ref b1), .val (.ref b5), .val (.int md), .unset] [(.int (1 : Int32))])) (fun _ ks => XS.iconst X14.here hx rfl (hb hby at_201)  ks) ?_
                      refine Dn.by (U' := T14.setTop (mkF m 206 #[.val (.long q0), .second, .val (.long q1), .second, .val (.long q2), .second, .val (.long q3), .second, .val (.long q4), .second, .val (.int p5), .val (.int pa), .val (.int pb), .val (.int pc), .val (.int pd), .val (.long a2), .second, .val (.long b2), .second, .val (.long c2), .second, .val (.long d2), .second, .val (.ref b1), .val (.ref b5), .val (.int md), .unset] [(.int (1 : Int32))])) (fun _ ks => XS.goto X14.here hx rfl (pc0 := 202) (pc' := 206) rfl (hb hby at_202) (by decide) (by decide) ks) ?_
                      refine Dn.out X14 (v := (some (.int (1 : Int32)))) (fun h => by rw [Bd.returns] at h; cases h) (BodyLoose.notSynchronized Bd) (fun _ hr => retN X14 hx (t := .boolean) Bd.returns (by simp) (hb hby at_206) hr) (by decide) (by decide) ?_
                      rw [e14]
                      exact ⟨rfl, N14⟩
                    ·
                      refine Dn.by (U' := T7.setTop (mkF m 207 #[.val (.long q0), .second, .val (.long q1), .second, .val (.long q2), .second, .val (.long q3), .second, .val (.long q4), .second, .val (.int p5), .val (.int pa), .val (.int pb), .val (.int pc), .val (.int pd), .val (.long a2), .second, .val (.long b2), .second, .val (.long c2), .second, .val (.long d2), .second, .val (.ref b1), .val (.ref b5), .val (.int md), .unset] [])) (fun _ ks => XS.icmpYes X7.here hx rfl (pc0 := 186) (pc' := 207) rfl (hb hby at_186) rfl (feq c186_11).2 (by decide) (by decide) ks) ?_
                      refine Dn.by (U' := T7.setTop (mkF m 209 #[.val (.long q0), .second, .val (.long q1), .second, .val (.long q2), .second, .val (.long q3), .second, .val (.long q4), .second, .val (.int p5), .val (.int pa), .val (.int pb), .val (.int pc), .val (.int pd), .val (.long a2), .second, .val (.long b2), .second, .val (.long c2), .second, .val (.long d2), .second, .val (.ref b1), .val (.ref b5), .val (.int md), .unset] [(.int md)])) (fun _ ks => XS.iload X7.here hx rfl (hb hby at_207) rfl ks) ?_
                      refine Dn.by (U' := T7.setTop (mkF m 210 #[.val (.long q0), .second, .val (.long q1), .second, .val (.long q2), .second, .val (.long q3), .second, .val (.long q4), .second, .val (.int p5), .val (.int pa), .val (.int pb), .val (.int pc), .val (.int pd), .val (.long a2), .second, .val (.long b2), .second, .val (.long c2), .second, .val (.long d2), .second, .val (.ref b1), .val (.ref b5), .val (.int md), .unset] [(.int (3 : Int32)), (.int md)])) (fun _ ks => XS.iconst X7.here hx rfl (hb hby at_209)  ks) ?_
                      by_cases c210_15 : md = (3 : Int32)
                      ·
                        refine Dn.by (U' := T7.setTop (mkF m 213 #[.val (.long q0), .second, .val (.long q1), .second, .val (.long q2), .second, .val (.long q3), .second, .val (.long q4), .second, .val (.int p5), .val (.int pa), .val (.int pb), .val (.int pc), .val (.int pd), .val (.long a2), .second, .val (.long b2), .second, .val (.long c2), .second, .val (.long d2), .second, .val (.ref b1), .val (.ref b5), .val (.int md), .unset] [])) (fun _ ks => XS.icmpNo X7.here hx rfl (hb hby at_210) rfl (teq c210_15).2 ks) ?_
                        refine Dn.by (U' := T7.setTop (mkF m 215 #[.val (.long q0), .second, .val (.long q1), .second, .val (.long q2), .second, .val (.long q3), .second, .val (.long q4), .second, .val (.int p5), .val (.int pa), .val (.int pb), .val (.int pc), .val (.int pd), .val (.long a2), .second, .val (.long b2), .second, .val (.long c2), .second, .val (.long d2), .second, .val (.ref b1), .val (.ref b5), .val (.int md), .unset] [(.ref b1)])) (fun _ ks => XS.aload X7.here hx rfl (hb hby at_213) rfl rfl ks) ?_
                        refine Dn.by (U' := T7.setTop (mkF m 217 #[.val (.long q0), .second, .val (.long q1), .second, .val (.long q2), .second, .val (.long q3), .second, .val (.long q4), .second, .val (.int p5), .val (.int pa), .val (.int pb), .val (.int pc), .val (.int pd), .val (.long a2), .second, .val (.long b2), .second, .val (.long c2), .second, .val (.long d2), .second, .val (.ref b1), .val (.ref b5), .val (.int md), .unset] [(.ref b1), (.ref b1)])) (fun _ ks => XS.aload X7.here hx rfl (hb hby at_215) rfl rfl ks) ?_
                        obtain ⟨cq16, kq16, qa16, qb16, qc16⟩ := isOf hZ rfl (((A1.keep KK3).ext E5).keep KK7)
                        obtain ⟨_, _, ⟨T16, L16, k16, n16⟩, -, X16, ⟨Lc16, hQ16, l16, y16, z16⟩, st16⟩ := X7.virtualBack hx (y := (⟨"com/example/weaverbird/weaverbird/model/RetryCounts", "equals", "(Ljava/lang/Object;)Z"⟩ : MethodName)) (z := (⟨"com/example/weaverbird/weaverbird/model/RetryCounts", "equals", "(Ljava/lang/Object;)Z"⟩ : MethodName)) hown (mvT hZ (hw _ (List.mem_of_getElem? (i := 17) rfl))) (mvT hZ (hw _ (List.mem_of_getElem? (i := 18) rfl))) (notFace_of_selects (args := #[]) (mvT hZ (hw _ (List.mem_of_getElem? (i := 20) rfl)))) (mvT hZ (hw _ (List.mem_of_getElem? (i := 20) rfl))) (mvT hZ (hw _ (List.mem_of_getElem? (i := 19) rfl))) (by decide) (backOf (W := 0) (rm3 l Z a0 hw [] b1 b1 q0 q1 q2 q3 q0 q1 q2 q3 T7.heap n0 z8 ((FF3_0.ext E5).keep KK7 (ninS ne_b1_b5 nin0)) ((FF3_1.ext E5).keep KK7 (ninS ne_b1_b5 nin0)) ((FF3_2.ext E5).keep KK7 (ninS ne_b1_b5 nin0)) ((FF3_3.ext E5).keep KK7 (ninS ne_b1_b5 nin0)) ((FF3_0.ext E5).keep KK7 (ninS ne_b1_b5 nin0)) ((FF3_1.ext E5).keep KK7 (ninS ne_b1_b5 nin0)) ((FF3_2.ext E5).keep KK7 (ninS ne_b1_b5 nin0)) ((FF3_3.ext E5).keep KK7 (ninS ne_b1_b5 nin0)) (((A1.keep KK3).ext E5).keep KK7)) hZ (hw _ (List.mem_of_getElem? (i := 21) rfl)) (hw _ (List.mem_of_getElem? (i := 2) rfl)) (by decide) (by decide)) qa16 qc16 (g := (mkF m 217 #[.val (.long q0), .second, .val (.long q1), .second, .val (.long q2), .second, .val (.long q3), .second, .val (.long q4), .second, .val (.int p5), .val (.int pa), .val (.int pb), .val (.int pc), .val (.int pd), .val (.long a2), .second, .val (.long b2), .second, .val (.long c2), .second, .val (.long d2), .second, .val (.ref b1), .val (.ref b5), .val (.int md), .unset] [(.ref b1), (.ref b1)])) rfl (by rw [hml]; rfl) (Steps.refl _) (argsL := [(.ref b1)]) (rest := []) (lenOf pd3 rfl) rfl (by show 2 * 0 + _ ≤ _; exact Nat.le_of_eq rfl) (hb hby at_217) (fun _ _ => ⟨rfl, rfl, (by decide : 2 + 0 ≤ _), (by decide : 8 + 0 ≤ _)⟩)
                        dsimp only [Pt.U, Pt.locs, Pt.cells, Pt.slots] at X16 l16 y16 z16 st16 hQ16
                        rw [l16, y16, z16] at X16
                        obtain ⟨rfl, N16q, e16⟩ := hQ16
                        have N16 := Fr.app N7 N16q
                        refine Dn.by (U' := T16.setTop (mkF m 220 #[.val (.long q0), .second, .val (.long q1), .second, .val (.long q2), .second, .val (.long q3), .second, .val (.long q4), .second, .val (.int p5), .val (.int pa), .val (.int pb), .val (.int pc), .val (.int pd), .val (.long a2), .second, .val (.long b2), .second, .val (.long c2), .second, .val (.long d2), .second, .val (.ref b1), .val (.ref b5), .val (.int md), .unset] [(.int (eqC b1 b1 q0 q1 q2 q3 q0 q1 q2 q3))])) (fun _ ks => st16.trans ks) ?_
                        rw [show (eqC b1 b1 q0 q1 q2 q3 q0 q1 q2 q3) = (1 : Int32) from own_refl _ _ _ _ _]
                        refine Dn.out X16 (v := (some (.int (1 : Int32)))) (fun h => by rw [Bd.returns] at h; cases h) (BodyLoose.notSynchronized Bd) (fun _ hr => retN X16 hx (t := .boolean) Bd.returns (by simp) (hb hby at_220) hr) (by decide) (by decide) ?_
                        rw [e16]
                        exact ⟨rfl, N16⟩
                      ·
                        refine Dn.by (U' := T7.setTop (mkF m 221 #[.val (.long q0), .second, .val (.long q1), .second, .val (.long q2), .second, .val (.long q3), .second, .val (.long q4), .second, .val (.int p5), .val (.int pa), .val (.int pb), .val (.int pc), .val (.int pd), .val (.long a2), .second, .val (.long b2), .second, .val (.long c2), .second, .val (.long d2), .second, .val (.ref b1), .val (.ref b5), .val (.int md), .unset] [])) (fun _ ks => XS.icmpYes X7.here hx rfl (pc0 := 210) (pc' := 221) rfl (hb hby at_210) rfl (feq c210_15).2 (by decide) (by decide) ks) ?_
                        refine Dn.by (U' := T7.setTop (mkF m 223 #[.val (.long q0), .second, .val (.long q1), .second, .val (.long q2), .second, .val (.long q3), .second, .val (.long q4), .second, .val (.int p5), .val (.int pa), .val (.int pb), .val (.int pc), .val (.int pd), .val (.long a2), .second, .val (.long b2), .second, .val (.long c2), .second, .val (.long d2), .second, .val (.ref b1), .val (.ref b5), .val (.int md), .unset] [(.long a2)])) (fun _ ks => XS.lload X7.here hx rfl (hb hby at_221) rfl ks) ?_
                        refine Dn.by (U' := T7.setTop (mkF m 224 #[.val (.long q0), .second, .val (.long q1), .second, .val (.long q2), .second, .val (.long q3), .second, .val (.long q4), .second, .val (.int p5), .val (.int pa), .val (.int pb), .val (.int pc), .val (.int pd), .val (.long a2), .second, .val (.long b2), .second, .val (.long c2), .second, .val (.long d2), .second, .val (.ref b1), .val (.ref b5), .val (.int md), .unset] [(.long q0), (.long a2)])) (fun _ ks => XS.lloadN X7.here hx rfl (hb hby at_223) rfl ks) ?_
                        refine Dn.by (U' := T7.setTop (mkF m 225 #[.val (.long q0), .second, .val (.long q1), .second, .val (.long q2), .second, .val (.long q3), .second, .val (.long q4), .second, .val (.int p5), .val (.int pa), .val (.int pb), .val (.int pc), .val (.int pd), .val (.long a2), .second, .val (.long b2), .second, .val (.long c2), .second, .val (.long d2), .second, .val (.ref b1), .val (.ref b5), .val (.int md), .unset] [(.int (lcmpW a2 q0))])) (fun _ ks => XS.lcmp X7.here hx rfl (hb hby at_224) rfl ks) ?_
                        by_cases c225_17 : a2 = q0
                        ·
                          refine Dn.by (U' := T7.setTop (mkF m 228 #[.val (.long q0), .second, .val (.long q1), .second, .val (.long q2), .second, .val (.long q3), .second, .val (.long q4), .second, .val (.int p5), .val (.int pa), .val (.int pb), .val (.int pc), .val (.int pd), .val (.long a2), .second, .val (.long b2), .second, .val (.long c2), .second, .val (.long d2), .second, .val (.ref b1), .val (.ref b5), .val (.int md), .unset] [])) (fun _ ks => XS.ifNo X7.here hx rfl (hb hby at_225) rfl ((if0 _ _).trans (teq ((lw_eq _ _).mpr c225_17)).2) ks) ?_
                          refine Dn.by (U' := T7.setTop (mkF m 230 #[.val (.long q0), .second, .val (.long q1), .second, .val (.long q2), .second, .val (.long q3), .second, .val (.long q4), .second, .val (.int p5), .val (.int pa), .val (.int pb), .val (.int pc), .val (.int pd), .val (.long a2), .second, .val (.long b2), .second, .val (.long c2), .second, .val (.long d2), .second, .val (.ref b1), .val (.ref b5), .val (.int md), .unset] [(.long b2)])) (fun _ ks => XS.lload X7.here hx rfl (hb hby at_228) rfl ks) ?_
                          refine Dn.by (U' := T7.setTop (mkF m 231 #[.val (.long q0), .second, .val (.long q1), .second, .val (.long q2), .second, .val (.long q3), .second, .val (.long q4), .second, .val (.int p5), .val (.int pa), .val (.int pb), .val (.int pc), .val (.int pd), .val (.long a2), .second, .val (.long b2), .second, .val (.long c2), .second, .val (.long d2), .second, .val (.ref b1), .val (.ref b5), .val (.int md), .unset] [(.long q1), (.long b2)])) (fun _ ks => XS.lloadN X7.here hx rfl (hb hby at_230) rfl ks) ?_
                          refine Dn.by (U' := T7.setTop (mkF m 232 #[.val (.long q0), .second, .val (.long q1), .second, .val (.long q2), .second, .val (.long q3), .second, .val (.long q4), .second, .val (.int p5), .val (.int pa), .val (.int pb), .val (.int pc), .val (.int pd), .val (.long a2), .second, .val (.long b2), .second, .val (.long c2), .second, .val (.long d2), .second, .val (.ref b1), .val (.ref b5), .val (.int md), .unset] [(.int (lcmpW b2 q1))])) (fun _ ks => XS.lcmp X7.here hx rfl (hb hby at_231) rfl ks) ?_
                          by_cases c232_18 : b2 = q1
                          ·
                            refine Dn.by (U' := T7.setTop (mkF m 235 #[.val (.long q0), .second, .val (.long q1), .second, .val (.long q2), .second, .val (.long q3), .second, .val (.long q4), .second, .val (.int p5), .val (.int pa), .val (.int pb), .val (.int pc), .val (.int pd), .val (.long a2), .second, .val (.long b2), .second, .val (.long c2), .second, .val (.long d2), .second, .val (.ref b1), .val (.ref b5), .val (.int md), .unset] [])) (fun _ ks => XS.ifNo X7.here hx rfl (hb hby at_232) rfl ((if0 _ _).trans (teq ((lw_eq _ _).mpr c232_18)).2) ks) ?_
                            refine Dn.by (U' := T7.setTop (mkF m 237 #[.val (.long q0), .second, .val (.long q1), .second, .val (.long q2), .second, .val (.long q3), .second, .val (.long q4), .second, .val (.int p5), .val (.int pa), .val (.int pb), .val (.int pc), .val (.int pd), .val (.long a2), .second, .val (.long b2), .second, .val (.long c2), .second, .val (.long d2), .second, .val (.ref b1), .val (.ref b5), .val (.int md), .unset] [(.long c2)])) (fun _ ks => XS.lload X7.here hx rfl (hb hby at_235) rfl ks) ?_
                            refine Dn.by (U' := T7.setTop (mkF m 239 #[.val (.long q0), .second, .val (.long q1), .second, .val (.long q2), .second, .val (.long q3), .second, .val (.long q4), .second, .val (.int p5), .val (.int pa), .val (.int pb), .val (.int pc), .val (.int pd), .val (.long a2), .second, .val (.long b2), .second, .val (.long c2), .second, .val (.long d2), .second, .val (.ref b1), .val (.ref b5), .val (.int md), .unset] [(.long q2), (.long c2)])) (fun _ ks => XS.lload X7.here hx rfl (hb hby at_237) rfl ks) ?_
                            refine Dn.by (U' := T7.setTop (mkF m 240 #[.val (.long q0), .second, .val (.long q1), .second, .val (.long q2), .second, .val (.long q3), .second, .val (.long q4), .second, .val (.int p5), .val (.int pa), .val (.int pb), .val (.int pc), .val (.int pd), .val (.long a2), .second, .val (.long b2), .second, .val (.long c2), .second, .val (.long d2), .second, .val (.ref b1), .val (.ref b5), .val (.int md), .unset] [(.int (lcmpW c2 q2))])) (fun _ ks => XS.lcmp X7.here hx rfl (hb hby at_239) rfl ks) ?_
                            by_cases c240_19 : c2 = q2
                            ·
                              refine Dn.by (U' := T7.setTop (mkF m 243 #[.val (.long q0), .second, .val (.long q1), .second, .val (.long q2), .second, .val (.long q3), .second, .val (.long q4), .second, .val (.int p5), .val (.int pa), .val (.int pb), .val (.int pc), .val (.int pd), .val (.long a2), .second, .val (.long b2), .second, .val (.long c2), .second, .val (.long d2), .second, .val (.ref b1), .val (.ref b5), .val (.int md), .unset] [])) (fun _ ks => XS.ifNo X7.here hx rfl (hb hby at_240) rfl ((if0 _ _).trans (teq ((lw_eq _ _).mpr c240_19)).2) ks) ?_
                              refine Dn.by (U' := T7.setTop (mkF m 245 #[.val (.long q0), .second, .val (.long q1), .second, .val (.long q2), .second, .val (.long q3), .second, .val (.long q4), .second, .val (.int p5), .val (.int pa), .val (.int pb), .val (.int pc), .val (.int pd), .val (.long a2), .second, .val (.long b2), .second, .val (.long c2), .second, .val (.long d2), .second, .val (.ref b1), .val (.ref b5), .val (.int md), .unset] [(.long d2)])) (fun _ ks => XS.lload X7.here hx rfl (hb hby at_243) rfl ks) ?_
                              refine Dn.by (U' := T7.setTop (mkF m 247 #[.val (.long q0), .second, .val (.long q1), .second, .val (.long q2), .second, .val (.long q3), .second, .val (.long q4), .second, .val (.int p5), .val (.int pa), .val (.int pb), .val (.int pc), .val (.int pd), .val (.long a2), .second, .val (.long b2), .second, .val (.long c2), .second, .val (.long d2), .second, .val (.ref b1), .val (.ref b5), .val (.int md), .unset] [(.long q3), (.long d2)])) (fun _ ks => XS.lload X7.here hx rfl (hb hby at_245) rfl ks) ?_
                              refine Dn.by (U' := T7.setTop (mkF m 248 #[.val (.long q0), .second, .val (.long q1), .second, .val (.long q2), .second, .val (.long q3), .second, .val (.long q4), .second, .val (.int p5), .val (.int pa), .val (.int pb), .val (.int pc), .val (.int pd), .val (.long a2), .second, .val (.long b2), .second, .val (.long c2), .second, .val (.long d2), .second, .val (.ref b1), .val (.ref b5), .val (.int md), .unset] [(.int (lcmpW d2 q3))])) (fun _ ks => XS.lcmp X7.here hx rfl (hb hby at_247) rfl ks) ?_
                              by_cases c248_20 : d2 = q3
                              ·
                                refine Dn.by (U' := T7.setTop (mkF m 251 #[.val (.long q0), .second, .val (.long q1), .second, .val (.long q2), .second, .val (.long q3), .second, .val (.long q4), .second, .val (.int p5), .val (.int pa), .val (.int pb), .val (.int pc), .val (.int pd), .val (.long a2), .second, .val (.long b2), .second, .val (.long c2), .second, .val (.long d2), .second, .val (.ref b1), .val (.ref b5), .val (.int md), .unset] [])) (fun _ ks => XS.ifNo X7.here hx rfl (hb hby at_248) rfl ((if0 _ _).trans (teq ((lw_eq _ _).mpr c248_20)).2) ks) ?_
                                refine Dn.by (U' := T7.setTop (mkF m 252 #[.val (.long q0), .second, .val (.long q1), .second, .val (.long q2), .second, .val (.long q3), .second, .val (.long q4), .second, .val (.int p5), .val (.int pa), .val (.int pb), .val (.int pc), .val (.int pd), .val (.long a2), .second, .val (.long b2), .second, .val (.long c2), .second, .val (.long d2), .second, .val (.ref b1), .val (.ref b5), .val (.int md), .unset] [(.int (1 : Int32))])) (fun _ ks => XS.iconst X7.here hx rfl (hb hby at_251)  ks) ?_
                                refine Dn.by (U' := T7.setTop (mkF m 256 #[.val (.long q0), .second, .val (.long q1), .second, .val (.long q2), .second, .val (.long q3), .second, .val (.long q4), .second, .val (.int p5), .val (.int pa), .val (.int pb), .val (.int pc), .val (.int pd), .val (.long a2), .second, .val (.long b2), .second, .val (.long c2), .second, .val (.long d2), .second, .val (.ref b1), .val (.ref b5), .val (.int md), .unset] [(.int (1 : Int32))])) (fun _ ks => XS.goto X7.here hx rfl (pc0 := 252) (pc' := 256) rfl (hb hby at_252) (by decide) (by decide) ks) ?_
                                refine Dn.by (U' := T7.setTop (mkF m 258 #[.val (.long q0), .second, .val (.long q1), .second, .val (.long q2), .second, .val (.long q3), .second, .val (.long q4), .second, .val (.int p5), .val (.int pa), .val (.int pb), .val (.int pc), .val (.int pd), .val (.long a2), .second, .val (.long b2), .second, .val (.long c2), .second, .val (.long d2), .second, .val (.ref b1), .val (.ref b5), .val (.int md), .val (.int (1 : Int32))] [])) (fun _ ks => XS.istore X7.here hx rfl (hb hby at_256) rfl (l' := #[.val (.long q0), .second, .val (.long q1), .second, .val (.long q2), .second, .val (.long q3), .second, .val (.long q4), .second, .val (.int p5), .val (.int pa), .val (.int pb), .val (.int pc), .val (.int pd), .val (.long a2), .second, .val (.long b2), .second, .val (.long c2), .second, .val (.long d2), .second, .val (.ref b1), .val (.ref b5), .val (.int md), .val (.int (1 : Int32))]) rfl ks) ?_
                                refine Dn.by (U' := T7.setTop (mkF m 260 #[.val (.long q0), .second, .val (.long q1), .second, .val (.long q2), .second, .val (.long q3), .second, .val (.long q4), .second, .val (.int p5), .val (.int pa), .val (.int pb), .val (.int pc), .val (.int pd), .val (.long a2), .second, .val (.long b2), .second, .val (.long c2), .second, .val (.long d2), .second, .val (.ref b1), .val (.ref b5), .val (.int md), .val (.int (1 : Int32))] [(.ref b1)])) (fun _ ks => XS.aload X7.here hx rfl (hb hby at_258) rfl rfl ks) ?_
                                refine Dn.by (U' := T7.setTop (mkF m 262 #[.val (.long q0), .second, .val (.long q1), .second, .val (.long q2), .second, .val (.long q3), .second, .val (.long q4), .second, .val (.int p5), .val (.int pa), .val (.int pb), .val (.int pc), .val (.int pd), .val (.long a2), .second, .val (.long b2), .second, .val (.long c2), .second, .val (.long d2), .second, .val (.ref b1), .val (.ref b5), .val (.int md), .val (.int (1 : Int32))] [(.ref b5), (.ref b1)])) (fun _ ks => XS.aload X7.here hx rfl (hb hby at_260) rfl rfl ks) ?_
                                obtain ⟨cq21, kq21, qa21, qb21, qc21⟩ := isOf hZ rfl (((A1.keep KK3).ext E5).keep KK7)
                                obtain ⟨_, _, ⟨T21, L21, k21, n21⟩, -, X21, ⟨Lc21, hQ21, l21, y21, z21⟩, st21⟩ := X7.virtualBack hx (y := (⟨"com/example/weaverbird/weaverbird/model/RetryCounts", "equals", "(Ljava/lang/Object;)Z"⟩ : MethodName)) (z := (⟨"com/example/weaverbird/weaverbird/model/RetryCounts", "equals", "(Ljava/lang/Object;)Z"⟩ : MethodName)) hown (mvT hZ (hw _ (List.mem_of_getElem? (i := 17) rfl))) (mvT hZ (hw _ (List.mem_of_getElem? (i := 18) rfl))) (notFace_of_selects (args := #[]) (mvT hZ (hw _ (List.mem_of_getElem? (i := 20) rfl)))) (mvT hZ (hw _ (List.mem_of_getElem? (i := 20) rfl))) (mvT hZ (hw _ (List.mem_of_getElem? (i := 19) rfl))) (by decide) (backOf (W := 0) (rm3 l Z a0 hw [] b1 b5 q0 q1 q2 q3 a2 b2 c2 d2 T7.heap n0 z8 ((FF3_0.ext E5).keep KK7 (ninS ne_b1_b5 nin0)) ((FF3_1.ext E5).keep KK7 (ninS ne_b1_b5 nin0)) ((FF3_2.ext E5).keep KK7 (ninS ne_b1_b5 nin0)) ((FF3_3.ext E5).keep KK7 (ninS ne_b1_b5 nin0)) FF7_0 FF7_1 FF7_2 FF7_3 (A5.keep KK7)) hZ (hw _ (List.mem_of_getElem? (i := 21) rfl)) (hw _ (List.mem_of_getElem? (i := 2) rfl)) (by decide) (by decide)) qa21 qc21 (g := (mkF m 262 #[.val (.long q0), .second, .val (.long q1), .second, .val (.long q2), .second, .val (.long q3), .second, .val (.long q4), .second, .val (.int p5), .val (.int pa), .val (.int pb), .val (.int pc), .val (.int pd), .val (.long a2), .second, .val (.long b2), .second, .val (.long c2), .second, .val (.long d2), .second, .val (.ref b1), .val (.ref b5), .val (.int md), .val (.int (1 : Int32))] [(.ref b5), (.ref b1)])) rfl (by rw [hml]; rfl) (Steps.refl _) (argsL := [(.ref b5)]) (rest := []) (lenOf pd3 rfl) rfl (by show 2 * 0 + _ ≤ _; exact Nat.le_of_eq rfl) (hb hby at_262) (fun _ _ => ⟨rfl, rfl, (by decide : 2 + 0 ≤ _), (by decide : 8 + 0 ≤ _)⟩)
                                dsimp only [Pt.U, Pt.locs, Pt.cells, Pt.slots] at X21 l21 y21 z21 st21 hQ21
                                rw [l21, y21, z21] at X21
                                obtain ⟨rfl, N21q, e21⟩ := hQ21
                                have N21 := Fr.app N7 N21q
                                refine Dn.by (U' := T21.setTop (mkF m 265 #[.val (.long q0), .second, .val (.long q1), .second, .val (.long q2), .second, .val (.long q3), .second, .val (.long q4), .second, .val (.int p5), .val (.int pa), .val (.int pb), .val (.int pc), .val (.int pd), .val (.long a2), .second, .val (.long b2), .second, .val (.long c2), .second, .val (.long d2), .second, .val (.ref b1), .val (.ref b5), .val (.int md), .val (.int (1 : Int32))] [(.int (eqC b1 b5 q0 q1 q2 q3 a2 b2 c2 d2))])) (fun _ ks => st21.trans ks) ?_
                                refine Dn.by (U' := T21.setTop (mkF m 267 #[.val (.long q0), .second, .val (.long q1), .second, .val (.long q2), .second, .val (.long q3), .second, .val (.long q4), .second, .val (.int p5), .val (.int pa), .val (.int pb), .val (.int pc), .val (.int pd), .val (.long a2), .second, .val (.long b2), .second, .val (.long c2), .second, .val (.long d2), .second, .val (.ref b1), .val (.ref b5), .val (.int md), .val (.int (1 : Int32))] [(.int (1 : Int32)), (.int (eqC b1 b5 q0 q1 q2 q3 a2 b2 c2 d2))])) (fun _ ks => XS.iload X21.here hx rfl (hb hby at_265) rfl ks) ?_
                                refine Dn.by (U' := T21.setTop (mkF m 270 #[.val (.long q0), .second, .val (.long q1), .second, .val (.long q2), .second, .val (.long q3), .second, .val (.long q4), .second, .val (.int p5), .val (.int pa), .val (.int pb), .val (.int pc), .val (.int pd), .val (.long a2), .second, .val (.long b2), .second, .val (.long c2), .second, .val (.long d2), .second, .val (.ref b1), .val (.ref b5), .val (.int md), .val (.int (1 : Int32))] [])) (fun _ ks => XS.icmpNo X21.here hx rfl (hb hby at_267) rfl (teq (by simp only [eqC, if_pos c225_17, if_pos c232_18, if_pos c240_19, if_pos c248_20])).2 ks) ?_
                                refine Dn.by (U' := T21.setTop (mkF m 272 #[.val (.long q0), .second, .val (.long q1), .second, .val (.long q2), .second, .val (.long q3), .second, .val (.long q4), .second, .val (.int p5), .val (.int pa), .val (.int pb), .val (.int pc), .val (.int pd), .val (.long a2), .second, .val (.long b2), .second, .val (.long c2), .second, .val (.long d2), .second, .val (.ref b1), .val (.ref b5), .val (.int md), .val (.int (1 : Int32))] [(.ref b5)])) (fun _ ks => XS.aload X21.here hx rfl (hb hby at_270) rfl rfl ks) ?_
                                refine Dn.by (U' := T21.setTop (mkF m 274 #[.val (.long q0), .second, .val (.long q1), .second, .val (.long q2), .second, .val (.long q3), .second, .val (.long q4), .second, .val (.int p5), .val (.int pa), .val (.int pb), .val (.int pc), .val (.int pd), .val (.long a2), .second, .val (.long b2), .second, .val (.long c2), .second, .val (.long d2), .second, .val (.ref b1), .val (.ref b5), .val (.int md), .val (.int (1 : Int32))] [(.ref b1), (.ref b5)])) (fun _ ks => XS.aload X21.here hx rfl (hb hby at_272) rfl rfl ks) ?_
                                obtain ⟨cq22, kq22, qa22, qb22, qc22⟩ := isOf hZ e21 (A5.keep KK7)
                                obtain ⟨_, _, ⟨T22, L22, k22, n22⟩, -, X22, ⟨Lc22, hQ22, l22, y22, z22⟩, st22⟩ := X21.virtualBack hx (y := (⟨"com/example/weaverbird/weaverbird/model/RetryCounts", "equals", "(Ljava/lang/Object;)Z"⟩ : MethodName)) (z := (⟨"com/example/weaverbird/weaverbird/model/RetryCounts", "equals", "(Ljava/lang/Object;)Z"⟩ : MethodName)) hown (mvT hZ (hw _ (List.mem_of_getElem? (i := 17) rfl))) (mvT hZ (hw _ (List.mem_of_getElem? (i := 18) rfl))) (notFace_of_selects (args := #[]) (mvT hZ (hw _ (List.mem_of_getElem? (i := 20) rfl)))) (mvT hZ (hw _ (List.mem_of_getElem? (i := 20) rfl))) (mvT hZ (hw _ (List.mem_of_getElem? (i := 19) rfl))) (by decide) (backOf (W := 0) (rm3 l Z a0 hw [] b5 b1 a2 b2 c2 d2 q0 q1 q2 q3 T7.heap n0 z8 FF7_0 FF7_1 FF7_2 FF7_3 ((FF3_0.ext E5).keep KK7 (ninS ne_b1_b5 nin0)) ((FF3_1.ext E5).keep KK7 (ninS ne_b1_b5 nin0)) ((FF3_2.ext E5).keep KK7 (ninS ne_b1_b5 nin0)) ((FF3_3.ext E5).keep KK7 (ninS ne_b1_b5 nin0)) (((A1.keep KK3).ext E5).keep KK7)) hZ (hw _ (List.mem_of_getElem? (i := 21) rfl)) (hw _ (List.mem_of_getElem? (i := 2) rfl)) (by decide) (by decide)) qa22 qc22 (g := (mkF m 274 #[.val (.long q0), .second, .val (.long q1), .second, .val (.long q2), .second, .val (.long q3), .second, .val (.long q4), .second, .val (.int p5), .val (.int pa), .val (.int pb), .val (.int pc), .val (.int pd), .val (.long a2), .second, .val (.long b2), .second, .val (.long c2), .second, .val (.long d2), .second, .val (.ref b1), .val (.ref b5), .val (.int md), .val (.int (1 : Int32))] [(.ref b1), (.ref b5)])) rfl (by rw [hml]; rfl) (Steps.refl _) (argsL := [(.ref b1)]) (rest := []) (lenOf pd3 rfl) rfl (by show 2 * 0 + _ ≤ _; exact Nat.le_of_eq rfl) (hb hby at_274) (fun _ _ => ⟨rfl, e21, (by decide : 2 + 0 ≤ _), (by decide : 8 + 0 ≤ _)⟩)
                                dsimp only [Pt.U, Pt.locs, Pt.cells, Pt.slots] at X22 l22 y22 z22 st22 hQ22
                                rw [l22, y22, z22] at X22
                                obtain ⟨rfl, N22q, e22⟩ := hQ22
                                have N22 := Fr.app N21 N22q
                                refine Dn.by (U' := T22.setTop (mkF m 277 #[.val (.long q0), .second, .val (.long q1), .second, .val (.long q2), .second, .val (.long q3), .second, .val (.long q4), .second, .val (.int p5), .val (.int pa), .val (.int pb), .val (.int pc), .val (.int pd), .val (.long a2), .second, .val (.long b2), .second, .val (.long c2), .second, .val (.long d2), .second, .val (.ref b1), .val (.ref b5), .val (.int md), .val (.int (1 : Int32))] [(.int (eqC b5 b1 a2 b2 c2 d2 q0 q1 q2 q3))])) (fun _ ks => st22.trans ks) ?_
                                refine Dn.by (U' := T22.setTop (mkF m 279 #[.val (.long q0), .second, .val (.long q1), .second, .val (.long q2), .second, .val (.long q3), .second, .val (.long q4), .second, .val (.int p5), .val (.int pa), .val (.int pb), .val (.int pc), .val (.int pd), .val (.long a2), .second, .val (.long b2), .second, .val (.long c2), .second, .val (.long d2), .second, .val (.ref b1), .val (.ref b5), .val (.int md), .val (.int (1 : Int32))] [(.int (1 : Int32)), (.int (eqC b5 b1 a2 b2 c2 d2 q0 q1 q2 q3))])) (fun _ ks => XS.iload X22.here hx rfl (hb hby at_277) rfl ks) ?_
                                refine Dn.by (U' := T22.setTop (mkF m 282 #[.val (.long q0), .second, .val (.long q1), .second, .val (.long q2), .second, .val (.long q3), .second, .val (.long q4), .second, .val (.int p5), .val (.int pa), .val (.int pb), .val (.int pc), .val (.int pd), .val (.long a2), .second, .val (.long b2), .second, .val (.long c2), .second, .val (.long d2), .second, .val (.ref b1), .val (.ref b5), .val (.int md), .val (.int (1 : Int32))] [])) (fun _ ks => XS.icmpNo X22.here hx rfl (hb hby at_279) rfl (teq (by simp only [eqC, if_pos c225_17.symm, if_pos c232_18.symm, if_pos c240_19.symm, if_pos c248_20.symm])).2 ks) ?_
                                refine Dn.by (U' := T22.setTop (mkF m 283 #[.val (.long q0), .second, .val (.long q1), .second, .val (.long q2), .second, .val (.long q3), .second, .val (.long q4), .second, .val (.int p5), .val (.int pa), .val (.int pb), .val (.int pc), .val (.int pd), .val (.long a2), .second, .val (.long b2), .second, .val (.long c2), .second, .val (.long d2), .second, .val (.ref b1), .val (.ref b5), .val (.int md), .val (.int (1 : Int32))] [(.int (1 : Int32))])) (fun _ ks => XS.iconst X22.here hx rfl (hb hby at_282)  ks) ?_
                                refine Dn.by (U' := T22.setTop (mkF m 287 #[.val (.long q0), .second, .val (.long q1), .second, .val (.long q2), .second, .val (.long q3), .second, .val (.long q4), .second, .val (.int p5), .val (.int pa), .val (.int pb), .val (.int pc), .val (.int pd), .val (.long a2), .second, .val (.long b2), .second, .val (.long c2), .second, .val (.long d2), .second, .val (.ref b1), .val (.ref b5), .val (.int md), .val (.int (1 : Int32))] [(.int (1 : Int32))])) (fun _ ks => XS.goto X22.here hx rfl (pc0 := 283) (pc' := 287) rfl (hb hby at_283) (by decide) (by decide) ks) ?_
                                refine Dn.out X22 (v := (some (.int (1 : Int32)))) (fun h => by rw [Bd.returns] at h; cases h) (BodyLoose.notSynchronized Bd) (fun _ hr => retN X22 hx (t := .boolean) Bd.returns (by simp) (hb hby at_287) hr) (by decide) (by decide) ?_
                                rw [e22]
                                exact ⟨rfl, N22⟩
                              ·
                                refine Dn.by (U' := T7.setTop (mkF m 255 #[.val (.long q0), .second, .val (.long q1), .second, .val (.long q2), .second, .val (.long q3), .second, .val (.long q4), .second, .val (.int p5), .val (.int pa), .val (.int pb), .val (.int pc), .val (.int pd), .val (.long a2), .second, .val (.long b2), .second, .val (.long c2), .second, .val (.long d2), .second, .val (.ref b1), .val (.ref b5), .val (.int md), .unset] [])) (fun _ ks => XS.ifYes X7.here hx rfl (pc0 := 248) (pc' := 255) rfl (hb hby at_248) rfl ((if0 _ _).trans (feq (fun z => c248_20 ((lw_eq _ _).mp z))).2) (by decide) (by decide) ks) ?_
                                refine Dn.by (U' := T7.setTop (mkF m 256 #[.val (.long q0), .second, .val (.long q1), .second, .val (.long q2), .second, .val (.long q3), .second, .val (.long q4), .second, .val (.int p5), .val (.int pa), .val (.int pb), .val (.int pc), .val (.int pd), .val (.long a2), .second, .val (.long b2), .second, .val (.long c2), .second, .val (.long d2), .second, .val (.ref b1), .val (.ref b5), .val (.int md), .unset] [(.int (0 : Int32))])) (fun _ ks => XS.iconst X7.here hx rfl (hb hby at_255)  ks) ?_
                                refine Dn.by (U' := T7.setTop (mkF m 258 #[.val (.long q0), .second, .val (.long q1), .second, .val (.long q2), .second, .val (.long q3), .second, .val (.long q4), .second, .val (.int p5), .val (.int pa), .val (.int pb), .val (.int pc), .val (.int pd), .val (.long a2), .second, .val (.long b2), .second, .val (.long c2), .second, .val (.long d2), .second, .val (.ref b1), .val (.ref b5), .val (.int md), .val (.int (0 : Int32))] [])) (fun _ ks => XS.istore X7.here hx rfl (hb hby at_256) rfl (l' := #[.val (.long q0), .second, .val (.long q1), .second, .val (.long q2), .second, .val (.long q3), .second, .val (.long q4), .second, .val (.int p5), .val (.int pa), .val (.int pb), .val (.int pc), .val (.int pd), .val (.long a2), .second, .val (.long b2), .second, .val (.long c2), .second, .val (.long d2), .second, .val (.ref b1), .val (.ref b5), .val (.int md), .val (.int (0 : Int32))]) rfl ks) ?_
                                refine Dn.by (U' := T7.setTop (mkF m 260 #[.val (.long q0), .second, .val (.long q1), .second, .val (.long q2), .second, .val (.long q3), .second, .val (.long q4), .second, .val (.int p5), .val (.int pa), .val (.int pb), .val (.int pc), .val (.int pd), .val (.long a2), .second, .val (.long b2), .second, .val (.long c2), .second, .val (.long d2), .second, .val (.ref b1), .val (.ref b5), .val (.int md), .val (.int (0 : Int32))] [(.ref b1)])) (fun _ ks => XS.aload X7.here hx rfl (hb hby at_258) rfl rfl ks) ?_
                                refine Dn.by (U' := T7.setTop (mkF m 262 #[.val (.long q0), .second, .val (.long q1), .second, .val (.long q2), .second, .val (.long q3), .second, .val (.long q4), .second, .val (.int p5), .val (.int pa), .val (.int pb), .val (.int pc), .val (.int pd), .val (.long a2), .second, .val (.long b2), .second, .val (.long c2), .second, .val (.long d2), .second, .val (.ref b1), .val (.ref b5), .val (.int md), .val (.int (0 : Int32))] [(.ref b5), (.ref b1)])) (fun _ ks => XS.aload X7.here hx rfl (hb hby at_260) rfl rfl ks) ?_
                                obtain ⟨cq23, kq23, qa23, qb23, qc23⟩ := isOf hZ rfl (((A1.keep KK3).ext E5).keep KK7)
                                obtain ⟨_, _, ⟨T23, L23, k23, n23⟩, -, X23, ⟨Lc23, hQ23, l23, y23, z23⟩, st23⟩ := X7.virtualBack hx (y := (⟨"com/example/weaverbird/weaverbird/model/RetryCounts", "equals", "(Ljava/lang/Object;)Z"⟩ : MethodName)) (z := (⟨"com/example/weaverbird/weaverbird/model/RetryCounts", "equals", "(Ljava/lang/Object;)Z"⟩ : MethodName)) hown (mvT hZ (hw _ (List.mem_of_getElem? (i := 17) rfl))) (mvT hZ (hw _ (List.mem_of_getElem? (i := 18) rfl))) (notFace_of_selects (args := #[]) (mvT hZ (hw _ (List.mem_of_getElem? (i := 20) rfl)))) (mvT hZ (hw _ (List.mem_of_getElem? (i := 20) rfl))) (mvT hZ (hw _ (List.mem_of_getElem? (i := 19) rfl))) (by decide) (backOf (W := 0) (rm3 l Z a0 hw [] b1 b5 q0 q1 q2 q3 a2 b2 c2 d2 T7.heap n0 z8 ((FF3_0.ext E5).keep KK7 (ninS ne_b1_b5 nin0)) ((FF3_1.ext E5).keep KK7 (ninS ne_b1_b5 nin0)) ((FF3_2.ext E5).keep KK7 (ninS ne_b1_b5 nin0)) ((FF3_3.ext E5).keep KK7 (ninS ne_b1_b5 nin0)) FF7_0 FF7_1 FF7_2 FF7_3 (A5.keep KK7)) hZ (hw _ (List.mem_of_getElem? (i := 21) rfl)) (hw _ (List.mem_of_getElem? (i := 2) rfl)) (by decide) (by decide)) qa23 qc23 (g := (mkF m 262 #[.val (.long q0), .second, .val (.long q1), .second, .val (.long q2), .second, .val (.long q3), .second, .val (.long q4), .second, .val (.int p5), .val (.int pa), .val (.int pb), .val (.int pc), .val (.int pd), .val (.long a2), .second, .val (.long b2), .second, .val (.long c2), .second, .val (.long d2), .second, .val (.ref b1), .val (.ref b5), .val (.int md), .val (.int (0 : Int32))] [(.ref b5), (.ref b1)])) rfl (by rw [hml]; rfl) (Steps.refl _) (argsL := [(.ref b5)]) (rest := []) (lenOf pd3 rfl) rfl (by show 2 * 0 + _ ≤ _; exact Nat.le_of_eq rfl) (hb hby at_262) (fun _ _ => ⟨rfl, rfl, (by decide : 2 + 0 ≤ _), (by decide : 8 + 0 ≤ _)⟩)
                                dsimp only [Pt.U, Pt.locs, Pt.cells, Pt.slots] at X23 l23 y23 z23 st23 hQ23
                                rw [l23, y23, z23] at X23
                                obtain ⟨rfl, N23q, e23⟩ := hQ23
                                have N23 := Fr.app N7 N23q
                                refine Dn.by (U' := T23.setTop (mkF m 265 #[.val (.long q0), .second, .val (.long q1), .second, .val (.long q2), .second, .val (.long q3), .second, .val (.long q4), .second, .val (.int p5), .val (.int pa), .val (.int pb), .val (.int pc), .val (.int pd), .val (.long a2), .second, .val (.long b2), .second, .val (.long c2), .second, .val (.long d2), .second, .val (.ref b1), .val (.ref b5), .val (.int md), .val (.int (0 : Int32))] [(.int (eqC b1 b5 q0 q1 q2 q3 a2 b2 c2 d2))])) (fun _ ks => st23.trans ks) ?_
                                refine Dn.by (U' := T23.setTop (mkF m 267 #[.val (.long q0), .second, .val (.long q1), .second, .val (.long q2), .second, .val (.long q3), .second, .val (.long q4), .second, .val (.int p5), .val (.int pa), .val (.int pb), .val (.int pc), .val (.int pd), .val (.long a2), .second, .val (.long b2), .second, .val (.long c2), .second, .val (.long d2), .second, .val (.ref b1), .val (.ref b5), .val (.int md), .val (.int (0 : Int32))] [(.int (0 : Int32)), (.int (eqC b1 b5 q0 q1 q2 q3 a2 b2 c2 d2))])) (fun _ ks => XS.iload X23.here hx rfl (hb hby at_265) rfl ks) ?_
                                refine Dn.by (U' := T23.setTop (mkF m 270 #[.val (.long q0), .second, .val (.long q1), .second, .val (.long q2), .second, .val (.long q3), .second, .val (.long q4), .second, .val (.int p5), .val (.int pa), .val (.int pb), .val (.int pc), .val (.int pd), .val (.long a2), .second, .val (.long b2), .second, .val (.long c2), .second, .val (.long d2), .second, .val (.ref b1), .val (.ref b5), .val (.int md), .val (.int (0 : Int32))] [])) (fun _ ks => XS.icmpNo X23.here hx rfl (hb hby at_267) rfl (teq (by simp only [eqC, if_pos c225_17, if_pos c232_18, if_pos c240_19, if_neg c248_20])).2 ks) ?_
                                refine Dn.by (U' := T23.setTop (mkF m 272 #[.val (.long q0), .second, .val (.long q1), .second, .val (.long q2), .second, .val (.long q3), .second, .val (.long q4), .second, .val (.int p5), .val (.int pa), .val (.int pb), .val (.int pc), .val (.int pd), .val (.long a2), .second, .val (.long b2), .second, .val (.long c2), .second, .val (.long d2), .second, .val (.ref b1), .val (.ref b5), .val (.int md), .val (.int (0 : Int32))] [(.ref b5)])) (fun _ ks => XS.aload X23.here hx rfl (hb hby at_270) rfl rfl ks) ?_
                                refine Dn.by (U' := T23.setTop (mkF m 274 #[.val (.long q0), .second, .val (.long q1), .second, .val (.long q2), .second, .val (.long q3), .second, .val (.long q4), .second, .val (.int p5), .val (.int pa), .val (.int pb), .val (.int pc), .val (.int pd), .val (.long a2), .second, .val (.long b2), .second, .val (.long c2), .second, .val (.long d2), .second, .val (.ref b1), .val (.ref b5), .val (.int md), .val (.int (0 : Int32))] [(.ref b1), (.ref b5)])) (fun _ ks => XS.aload X23.here hx rfl (hb hby at_272) rfl rfl ks) ?_
                                obtain ⟨cq24, kq24, qa24, qb24, qc24⟩ := isOf hZ e23 (A5.keep KK7)
                                obtain ⟨_, _, ⟨T24, L24, k24, n24⟩, -, X24, ⟨Lc24, hQ24, l24, y24, z24⟩, st24⟩ := X23.virtualBack hx (y := (⟨"com/example/weaverbird/weaverbird/model/RetryCounts", "equals", "(Ljava/lang/Object;)Z"⟩ : MethodName)) (z := (⟨"com/example/weaverbird/weaverbird/model/RetryCounts", "equals", "(Ljava/lang/Object;)Z"⟩ : MethodName)) hown (mvT hZ (hw _ (List.mem_of_getElem? (i := 17) rfl))) (mvT hZ (hw _ (List.mem_of_getElem? (i := 18) rfl))) (notFace_of_selects (args := #[]) (mvT hZ (hw _ (List.mem_of_getElem? (i := 20) rfl)))) (mvT hZ (hw _ (List.mem_of_getElem? (i := 20) rfl))) (mvT hZ (hw _ (List.mem_of_getElem? (i := 19) rfl))) (by decide) (backOf (W := 0) (rm3 l Z a0 hw [] b5 b1 a2 b2 c2 d2 q0 q1 q2 q3 T7.heap n0 z8 FF7_0 FF7_1 FF7_2 FF7_3 ((FF3_0.ext E5).keep KK7 (ninS ne_b1_b5 nin0)) ((FF3_1.ext E5).keep KK7 (ninS ne_b1_b5 nin0)) ((FF3_2.ext E5).keep KK7 (ninS ne_b1_b5 nin0)) ((FF3_3.ext E5).keep KK7 (ninS ne_b1_b5 nin0)) (((A1.keep KK3).ext E5).keep KK7)) hZ (hw _ (List.mem_of_getElem? (i := 21) rfl)) (hw _ (List.mem_of_getElem? (i := 2) rfl)) (by decide) (by decide)) qa24 qc24 (g := (mkF m 274 #[.val (.long q0), .second, .val (.long q1), .second, .val (.long q2), .second, .val (.long q3), .second, .val (.long q4), .second, .val (.int p5), .val (.int pa), .val (.int pb), .val (.int pc), .val (.int pd), .val (.long a2), .second, .val (.long b2), .second, .val (.long c2), .second, .val (.long d2), .second, .val (.ref b1), .val (.ref b5), .val (.int md), .val (.int (0 : Int32))] [(.ref b1), (.ref b5)])) rfl (by rw [hml]; rfl) (Steps.refl _) (argsL := [(.ref b1)]) (rest := []) (lenOf pd3 rfl) rfl (by show 2 * 0 + _ ≤ _; exact Nat.le_of_eq rfl) (hb hby at_274) (fun _ _ => ⟨rfl, e23, (by decide : 2 + 0 ≤ _), (by decide : 8 + 0 ≤ _)⟩)
                                dsimp only [Pt.U, Pt.locs, Pt.cells, Pt.slots] at X24 l24 y24 z24 st24 hQ24
                                rw [l24, y24, z24] at X24
                                obtain ⟨rfl, N24q, e24⟩ := hQ24
                                have N24 := Fr.app N23 N24q
                                refine Dn.by (U' := T24.setTop (mkF m 277 #[.val (.long q0), .second, .val (.long q1), .second, .val (.long q2), .second, .val (.long q3), .second, .val (.long q4), .second, .val (.int p5), .val (.int pa), .val (.int pb), .val (.int pc), .val (.int pd), .val (.long a2), .second, .val (.long b2), .second, .val (.long c2), .second, .val (.long d2), .second, .val (.ref b1), .val (.ref b5), .val (.int md), .val (.int (0 : Int32))] [(.int (eqC b5 b1 a2 b2 c2 d2 q0 q1 q2 q3))])) (fun _ ks => st24.trans ks) ?_
                                refine Dn.by (U' := T24.setTop (mkF m 279 #[.val (.long q0), .second, .val (.long q1), .second, .val (.long q2), .second, .val (.long q3), .second, .val (.long q4), .second, .val (.int p5), .val (.int pa), .val (.int pb), .val (.int pc), .val (.int pd), .val (.long a2), .second, .val (.long b2), .second, .val (.long c2), .second, .val (.long d2), .second, .val (.ref b1), .val (.ref b5), .val (.int md), .val (.int (0 : Int32))] [(.int (0 : Int32)), (.int (eqC b5 b1 a2 b2 c2 d2 q0 q1 q2 q3))])) (fun _ ks => XS.iload X24.here hx rfl (hb hby at_277) rfl ks) ?_
                                refine Dn.by (U' := T24.setTop (mkF m 282 #[.val (.long q0), .second, .val (.long q1), .second, .val (.long q2), .second, .val (.long q3), .second, .val (.long q4), .second, .val (.int p5), .val (.int pa), .val (.int pb), .val (.int pc), .val (.int pd), .val (.long a2), .second, .val (.long b2), .second, .val (.long c2), .second, .val (.long d2), .second, .val (.ref b1), .val (.ref b5), .val (.int md), .val (.int (0 : Int32))] [])) (fun _ ks => XS.icmpNo X24.here hx rfl (hb hby at_279) rfl (teq (by simp only [eqC, if_pos c225_17.symm, if_pos c232_18.symm, if_pos c240_19.symm, if_neg (Ne.symm c248_20)])).2 ks) ?_
                                refine Dn.by (U' := T24.setTop (mkF m 283 #[.val (.long q0), .second, .val (.long q1), .second, .val (.long q2), .second, .val (.long q3), .second, .val (.long q4), .second, .val (.int p5), .val (.int pa), .val (.int pb), .val (.int pc), .val (.int pd), .val (.long a2), .second, .val (.long b2), .second, .val (.long c2), .second, .val (.long d2), .second, .val (.ref b1), .val (.ref b5), .val (.int md), .val (.int (0 : Int32))] [(.int (1 : Int32))])) (fun _ ks => XS.iconst X24.here hx rfl (hb hby at_282)  ks) ?_
                                refine Dn.by (U' := T24.setTop (mkF m 287 #[.val (.long q0), .second, .val (.long q1), .second, .val (.long q2), .second, .val (.long q3), .second, .val (.long q4), .second, .val (.int p5), .val (.int pa), .val (.int pb), .val (.int pc), .val (.int pd), .val (.long a2), .second, .val (.long b2), .second, .val (.long c2), .second, .val (.long d2), .second, .val (.ref b1), .val (.ref b5), .val (.int md), .val (.int (0 : Int32))] [(.int (1 : Int32))])) (fun _ ks => XS.goto X24.here hx rfl (pc0 := 283) (pc' := 287) rfl (hb hby at_283) (by decide) (by decide) ks) ?_
                                refine Dn.out X24 (v := (some (.int (1 : Int32)))) (fun h => by rw [Bd.returns] at h; cases h) (BodyLoose.notSynchronized Bd) (fun _ hr => retN X24 hx (t := .boolean) Bd.returns (by simp) (hb hby at_287) hr) (by decide) (by decide) ?_
                                rw [e24]
                                exact ⟨rfl, N24⟩
                            ·
                              refine Dn.by (U' := T7.setTop (mkF m 255 #[.val (.long q0), .second, .val (.long q1), .second, .val (.long q2), .second, .val (.long q3), .second, .val (.long q4), .second, .val (.int p5), .val (.int pa), .val (.int pb), .val (.int pc), .val (.int pd), .val (.long a2), .second, .val (.long b2), .second, .val (.long c2), .second, .val (.long d2), .second, .val (.ref b1), .val (.ref b5), .val (.int md), .unset] [])) (fun _ ks => XS.ifYes X7.here hx rfl (pc0 := 240) (pc' := 255) rfl (hb hby at_240) rfl ((if0 _ _).trans (feq (fun z => c240_19 ((lw_eq _ _).mp z))).2) (by decide) (by decide) ks) ?_
                              refine Dn.by (U' := T7.setTop (mkF m 256 #[.val (.long q0), .second, .val (.long q1), .second, .val (.long q2), .second, .val (.long q3), .second, .val (.long q4), .second, .val (.int p5), .val (.int pa), .val (.int pb), .val (.int pc), .val (.int pd), .val (.long a2), .second, .val (.long b2), .second, .val (.long c2), .second, .val (.long d2), .second, .val (.ref b1), .val (.ref b5), .val (.int md), .unset] [(.int (0 : Int32))])) (fun _ ks => XS.iconst X7.here hx rfl (hb hby at_255)  ks) ?_
                              refine Dn.by (U' := T7.setTop (mkF m 258 #[.val (.long q0), .second, .val (.long q1), .second, .val (.long q2), .second, .val (.long q3), .second, .val (.long q4), .second, .val (.int p5), .val (.int pa), .val (.int pb), .val (.int pc), .val (.int pd), .val (.long a2), .second, .val (.long b2), .second, .val (.long c2), .second, .val (.long d2), .second, .val (.ref b1), .val (.ref b5), .val (.int md), .val (.int (0 : Int32))] [])) (fun _ ks => XS.istore X7.here hx rfl (hb hby at_256) rfl (l' := #[.val (.long q0), .second, .val (.long q1), .second, .val (.long q2), .second, .val (.long q3), .second, .val (.long q4), .second, .val (.int p5), .val (.int pa), .val (.int pb), .val (.int pc), .val (.int pd), .val (.long a2), .second, .val (.long b2), .second, .val (.long c2), .second, .val (.long d2), .second, .val (.ref b1), .val (.ref b5), .val (.int md), .val (.int (0 : Int32))]) rfl ks) ?_
                              refine Dn.by (U' := T7.setTop (mkF m 260 #[.val (.long q0), .second, .val (.long q1), .second, .val (.long q2), .second, .val (.long q3), .second, .val (.long q4), .second, .val (.int p5), .val (.int pa), .val (.int pb), .val (.int pc), .val (.int pd), .val (.long a2), .second, .val (.long b2), .second, .val (.long c2), .second, .val (.long d2), .second, .val (.ref b1), .val (.ref b5), .val (.int md), .val (.int (0 : Int32))] [(.ref b1)])) (fun _ ks => XS.aload X7.here hx rfl (hb hby at_258) rfl rfl ks) ?_
                              refine Dn.by (U' := T7.setTop (mkF m 262 #[.val (.long q0), .second, .val (.long q1), .second, .val (.long q2), .second, .val (.long q3), .second, .val (.long q4), .second, .val (.int p5), .val (.int pa), .val (.int pb), .val (.int pc), .val (.int pd), .val (.long a2), .second, .val (.long b2), .second, .val (.long c2), .second, .val (.long d2), .second, .val (.ref b1), .val (.ref b5), .val (.int md), .val (.int (0 : Int32))] [(.ref b5), (.ref b1)])) (fun _ ks => XS.aload X7.here hx rfl (hb hby at_260) rfl rfl ks) ?_
                              obtain ⟨cq25, kq25, qa25, qb25, qc25⟩ := isOf hZ rfl (((A1.keep KK3).ext E5).keep KK7)
                              obtain ⟨_, _, ⟨T25, L25, k25, n25⟩, -, X25, ⟨Lc25, hQ25, l25, y25, z25⟩, st25⟩ := X7.virtualBack hx (y := (⟨"com/example/weaverbird/weaverbird/model/RetryCounts", "equals", "(Ljava/lang/Object;)Z"⟩ : MethodName)) (z := (⟨"com/example/weaverbird/weaverbird/model/RetryCounts", "equals", "(Ljava/lang/Object;)Z"⟩ : MethodName)) hown (mvT hZ (hw _ (List.mem_of_getElem? (i := 17) rfl))) (mvT hZ (hw _ (List.mem_of_getElem? (i := 18) rfl))) (notFace_of_selects (args := #[]) (mvT hZ (hw _ (List.mem_of_getElem? (i := 20) rfl)))) (mvT hZ (hw _ (List.mem_of_getElem? (i := 20) rfl))) (mvT hZ (hw _ (List.mem_of_getElem? (i := 19) rfl))) (by decide) (backOf (W := 0) (rm3 l Z a0 hw [] b1 b5 q0 q1 q2 q3 a2 b2 c2 d2 T7.heap n0 z8 ((FF3_0.ext E5).keep KK7 (ninS ne_b1_b5 nin0)) ((FF3_1.ext E5).keep KK7 (ninS ne_b1_b5 nin0)) ((FF3_2.ext E5).keep KK7 (ninS ne_b1_b5 nin0)) ((FF3_3.ext E5).keep KK7 (ninS ne_b1_b5 nin0)) FF7_0 FF7_1 FF7_2 FF7_3 (A5.keep KK7)) hZ (hw _ (List.mem_of_getElem? (i := 21) rfl)) (hw _ (List.mem_of_getElem? (i := 2) rfl)) (by decide) (by decide)) qa25 qc25 (g := (mkF m 262 #[.val (.long q0), .second, .val (.long q1), .second, .val (.long q2), .second, .val (.long q3), .second, .val (.long q4), .second, .val (.int p5), .val (.int pa), .val (.int pb), .val (.int pc), .val (.int pd), .val (.long a2), .second, .val (.long b2), .second, .val (.long c2), .second, .val (.long d2), .second, .val (.ref b1), .val (.ref b5), .val (.int md), .val (.int (0 : Int32))] [(.ref b5), (.ref b1)])) rfl (by rw [hml]; rfl) (Steps.refl _) (argsL := [(.ref b5)]) (rest := []) (lenOf pd3 rfl) rfl (by show 2 * 0 + _ ≤ _; exact Nat.le_of_eq rfl) (hb hby at_262) (fun _ _ => ⟨rfl, rfl, (by decide : 2 + 0 ≤ _), (by decide : 8 + 0 ≤ _)⟩)
                              dsimp only [Pt.U, Pt.locs, Pt.cells, Pt.slots] at X25 l25 y25 z25 st25 hQ25
                              rw [l25, y25, z25] at X25
                              obtain ⟨rfl, N25q, e25⟩ := hQ25
                              have N25 := Fr.app N7 N25q
                              refine Dn.by (U' := T25.setTop (mkF m 265 #[.val (.long q0), .second, .val (.long q1), .second, .val (.long q2), .second, .val (.long q3), .second, .val (.long q4), .second, .val (.int p5), .val (.int pa), .val (.int pb), .val (.int pc), .val (.int pd), .val (.long a2), .second, .val (.long b2), .second, .val (.long c2), .second, .val (.long d2), .second, .val (.ref b1), .val (.ref b5), .val (.int md), .val (.int (0 : Int32))] [(.int (eqC b1 b5 q0 q1 q2 q3 a2 b2 c2 d2))])) (fun _ ks => st25.trans ks) ?_
                              refine Dn.by (U' := T25.setTop (mkF m 267 #[.val (.long q0), .second, .val (.long q1), .second, .val (.long q2), .second, .val (.long q3), .second, .val (.long q4), .second, .val (.int p5), .val (.int pa), .val (.int pb), .val (.int pc), .val (.int pd), .val (.long a2), .second, .val (.long b2), .second, .val (.long c2), .second, .val (.long d2), .second, .val (.ref b1), .val (.ref b5), .val (.int md), .val (.int (0 : Int32))] [(.int (0 : Int32)), (.int (eqC b1 b5 q0 q1 q2 q3 a2 b2 c2 d2))])) (fun _ ks => XS.iload X25.here hx rfl (hb hby at_265) rfl ks) ?_
                              refine Dn.by (U' := T25.setTop (mkF m 270 #[.val (.long q0), .second, .val (.long q1), .second, .val (.long q2), .second, .val (.long q3), .second, .val (.long q4), .second, .val (.int p5), .val (.int pa), .val (.int pb), .val (.int pc), .val (.int pd), .val (.long a2), .second, .val (.long b2), .second, .val (.long c2), .second, .val (.long d2), .second, .val (.ref b1), .val (.ref b5), .val (.int md), .val (.int (0 : Int32))] [])) (fun _ ks => XS.icmpNo X25.here hx rfl (hb hby at_267) rfl (teq (by simp only [eqC, if_pos c225_17, if_pos c232_18, if_neg c240_19])).2 ks) ?_
                              refine Dn.by (U' := T25.setTop (mkF m 272 #[.val (.long q0), .second, .val (.long q1), .second, .val (.long q2), .second, .val (.long q3), .second, .val (.long q4), .second, .val (.int p5), .val (.int pa), .val (.int pb), .val (.int pc), .val (.int pd), .val (.long a2), .second, .val (.long b2), .second, .val (.long c2), .second, .val (.long d2), .second, .val (.ref b1), .val (.ref b5), .val (.int md), .val (.int (0 : Int32))] [(.ref b5)])) (fun _ ks => XS.aload X25.here hx rfl (hb hby at_270) rfl rfl ks) ?_
                              refine Dn.by (U' := T25.setTop (mkF m 274 #[.val (.long q0), .second, .val (.long q1), .second, .val (.long q2), .second, .val (.long q3), .second, .val (.long q4), .second, .val (.int p5), .val (.int pa), .val (.int pb), .val (.int pc), .val (.int pd), .val (.long a2), .second, .val (.long b2), .second, .val (.long c2), .second, .val (.long d2), .second, .val (.ref b1), .val (.ref b5), .val (.int md), .val (.int (0 : Int32))] [(.ref b1), (.ref b5)])) (fun _ ks => XS.aload X25.here hx rfl (hb hby at_272) rfl rfl ks) ?_
                              obtain ⟨cq26, kq26, qa26, qb26, qc26⟩ := isOf hZ e25 (A5.keep KK7)
                              obtain ⟨_, _, ⟨T26, L26, k26, n26⟩, -, X26, ⟨Lc26, hQ26, l26, y26, z26⟩, st26⟩ := X25.virtualBack hx (y := (⟨"com/example/weaverbird/weaverbird/model/RetryCounts", "equals", "(Ljava/lang/Object;)Z"⟩ : MethodName)) (z := (⟨"com/example/weaverbird/weaverbird/model/RetryCounts", "equals", "(Ljava/lang/Object;)Z"⟩ : MethodName)) hown (mvT hZ (hw _ (List.mem_of_getElem? (i := 17) rfl))) (mvT hZ (hw _ (List.mem_of_getElem? (i := 18) rfl))) (notFace_of_selects (args := #[]) (mvT hZ (hw _ (List.mem_of_getElem? (i := 20) rfl)))) (mvT hZ (hw _ (List.mem_of_getElem? (i := 20) rfl))) (mvT hZ (hw _ (List.mem_of_getElem? (i := 19) rfl))) (by decide) (backOf (W := 0) (rm3 l Z a0 hw [] b5 b1 a2 b2 c2 d2 q0 q1 q2 q3 T7.heap n0 z8 FF7_0 FF7_1 FF7_2 FF7_3 ((FF3_0.ext E5).keep KK7 (ninS ne_b1_b5 nin0)) ((FF3_1.ext E5).keep KK7 (ninS ne_b1_b5 nin0)) ((FF3_2.ext E5).keep KK7 (ninS ne_b1_b5 nin0)) ((FF3_3.ext E5).keep KK7 (ninS ne_b1_b5 nin0)) (((A1.keep KK3).ext E5).keep KK7)) hZ (hw _ (List.mem_of_getElem? (i := 21) rfl)) (hw _ (List.mem_of_getElem? (i := 2) rfl)) (by decide) (by decide)) qa26 qc26 (g := (mkF m 274 #[.val (.long q0), .second, .val (.long q1), .second, .val (.long q2), .second, .val (.long q3), .second, .val (.long q4), .second, .val (.int p5), .val (.int pa), .val (.int pb), .val (.int pc), .val (.int pd), .val (.long a2), .second, .val (.long b2), .second, .val (.long c2), .second, .val (.long d2), .second, .val (.ref b1), .val (.ref b5), .val (.int md), .val (.int (0 : Int32))] [(.ref b1), (.ref b5)])) rfl (by rw [hml]; rfl) (Steps.refl _) (argsL := [(.ref b1)]) (rest := []) (lenOf pd3 rfl) rfl (by show 2 * 0 + _ ≤ _; exact Nat.le_of_eq rfl) (hb hby at_274) (fun _ _ => ⟨rfl, e25, (by decide : 2 + 0 ≤ _), (by decide : 8 + 0 ≤ _)⟩)
                              dsimp only [Pt.U, Pt.locs, Pt.cells, Pt.slots] at X26 l26 y26 z26 st26 hQ26
                              rw [l26, y26, z26] at X26
                              obtain ⟨rfl, N26q, e26⟩ := hQ26
                              have N26 := Fr.app N25 N26q
                              refine Dn.by (U' := T26.setTop (mkF m 277 #[.val (.long q0), .second, .val (.long q1), .second, .val (.long q2), .second, .val (.long q3), .second, .val (.long q4), .second, .val (.int p5), .val (.int pa), .val (.int pb), .val (.int pc), .val (.int pd), .val (.long a2), .second, .val (.long b2), .second, .val (.long c2), .second, .val (.long d2), .second, .val (.ref b1), .val (.ref b5), .val (.int md), .val (.int (0 : Int32))] [(.int (eqC b5 b1 a2 b2 c2 d2 q0 q1 q2 q3))])) (fun _ ks => st26.trans ks) ?_
                              refine Dn.by (U' := T26.setTop (mkF m 279 #[.val (.long q0), .second, .val (.long q1), .second, .val (.long q2), .second, .val (.long q3), .second, .val (.long q4), .second, .val (.int p5), .val (.int pa), .val (.int pb), .val (.int pc), .val (.int pd), .val (.long a2), .second, .val (.long b2), .second, .val (.long c2), .second, .val (.long d2), .second, .val (.ref b1), .val (.ref b5), .val (.int md), .val (.int (0 : Int32))] [(.int (0 : Int32)), (.int (eqC b5 b1 a2 b2 c2 d2 q0 q1 q2 q3))])) (fun _ ks => XS.iload X26.here hx rfl (hb hby at_277) rfl ks) ?_
                              refine Dn.by (U' := T26.setTop (mkF m 282 #[.val (.long q0), .second, .val (.long q1), .second, .val (.long q2), .second, .val (.long q3), .second, .val (.long q4), .second, .val (.int p5), .val (.int pa), .val (.int pb), .val (.int pc), .val (.int pd), .val (.long a2), .second, .val (.long b2), .second, .val (.long c2), .second, .val (.long d2), .second, .val (.ref b1), .val (.ref b5), .val (.int md), .val (.int (0 : Int32))] [])) (fun _ ks => XS.icmpNo X26.here hx rfl (hb hby at_279) rfl (teq (by simp only [eqC, if_pos c225_17.symm, if_pos c232_18.symm, if_neg (Ne.symm c240_19)])).2 ks) ?_
                              refine Dn.by (U' := T26.setTop (mkF m 283 #[.val (.long q0), .second, .val (.long q1), .second, .val (.long q2), .second, .val (.long q3), .second, .val (.long q4), .second, .val (.int p5), .val (.int pa), .val (.int pb), .val (.int pc), .val (.int pd), .val (.long a2), .second, .val (.long b2), .second, .val (.long c2), .second, .val (.long d2), .second, .val (.ref b1), .val (.ref b5), .val (.int md), .val (.int (0 : Int32))] [(.int (1 : Int32))])) (fun _ ks => XS.iconst X26.here hx rfl (hb hby at_282)  ks) ?_
                              refine Dn.by (U' := T26.setTop (mkF m 287 #[.val (.long q0), .second, .val (.long q1), .second, .val (.long q2), .second, .val (.long q3), .second, .val (.long q4), .second, .val (.int p5), .val (.int pa), .val (.int pb), .val (.int pc), .val (.int pd), .val (.long a2), .second, .val (.long b2), .second, .val (.long c2), .second, .val (.long d2), .second, .val (.ref b1), .val (.ref b5), .val (.int md), .val (.int (0 : Int32))] [(.int (1 : Int32))])) (fun _ ks => XS.goto X26.here hx rfl (pc0 := 283) (pc' := 287) rfl (hb hby at_283) (by decide) (by decide) ks) ?_
                              refine Dn.out X26 (v := (some (.int (1 : Int32)))) (fun h => by rw [Bd.returns] at h; cases h) (BodyLoose.notSynchronized Bd) (fun _ hr => retN X26 hx (t := .boolean) Bd.returns (by simp) (hb hby at_287) hr) (by decide) (by decide) ?_
                              rw [e26]
                              exact ⟨rfl, N26⟩
                          ·
                            refine Dn.by (U' := T7.setTop (mkF m 255 #[.val (.long q0), .second, .val (.long q1), .second, .val (.long q2), .second, .val (.long q3), .second, .val (.long q4), .second, .val (.int p5), .val (.int pa), .val (.int pb), .val (.int pc), .val (.int pd), .val (.long a2), .second, .val (.long b2), .second, .val (.long c2), .second, .val (.long d2), .second, .val (.ref b1), .val (.ref b5), .val (.int md), .unset] [])) (fun _ ks => XS.ifYes X7.here hx rfl (pc0 := 232) (pc' := 255) rfl (hb hby at_232) rfl ((if0 _ _).trans (feq (fun z => c232_18 ((lw_eq _ _).mp z))).2) (by decide) (by decide) ks) ?_
                            refine Dn.by (U' := T7.setTop (mkF m 256 #[.val (.long q0), .second, .val (.long q1), .second, .val (.long q2), .second, .val (.long q3), .second, .val (.long q4), .second, .val (.int p5), .val (.int pa), .val (.int pb), .val (.int pc), .val (.int pd), .val (.long a2), .second, .val (.long b2), .second, .val (.long c2), .second, .val (.long d2), .second, .val (.ref b1), .val (.ref b5), .val (.int md), .unset] [(.int (0 : Int32))])) (fun _ ks => XS.iconst X7.here hx rfl (hb hby at_255)  ks) ?_
                            refine Dn.by (U' := T7.setTop (mkF m 258 #[.val (.long q0), .second, .val (.long q1), .second, .val (.long q2), .second, .val (.long q3), .second, .val (.long q4), .second, .val (.int p5), .val (.int pa), .val (.int pb), .val (.int pc), .val (.int pd), .val (.long a2), .second, .val (.long b2), .second, .val (.long c2), .second, .val (.long d2), .second, .val (.ref b1), .val (.ref b5), .val (.int md), .val (.int (0 : Int32))] [])) (fun _ ks => XS.istore X7.here hx rfl (hb hby at_256) rfl (l' := #[.val (.long q0), .second, .val (.long q1), .second, .val (.long q2), .second, .val (.long q3), .second, .val (.long q4), .second, .val (.int p5), .val (.int pa), .val (.int pb), .val (.int pc), .val (.int pd), .val (.long a2), .second, .val (.long b2), .second, .val (.long c2), .second, .val (.long d2), .second, .val (.ref b1), .val (.ref b5), .val (.int md), .val (.int (0 : Int32))]) rfl ks) ?_
                            refine Dn.by (U' := T7.setTop (mkF m 260 #[.val (.long q0), .second, .val (.long q1), .second, .val (.long q2), .second, .val (.long q3), .second, .val (.long q4), .second, .val (.int p5), .val (.int pa), .val (.int pb), .val (.int pc), .val (.int pd), .val (.long a2), .second, .val (.long b2), .second, .val (.long c2), .second, .val (.long d2), .second, .val (.ref b1), .val (.ref b5), .val (.int md), .val (.int (0 : Int32))] [(.ref b1)])) (fun _ ks => XS.aload X7.here hx rfl (hb hby at_258) rfl rfl ks) ?_
                            refine Dn.by (U' := T7.setTop (mkF m 262 #[.val (.long q0), .second, .val (.long q1), .second, .val (.long q2), .second, .val (.long q3), .second, .val (.long q4), .second, .val (.int p5), .val (.int pa), .val (.int pb), .val (.int pc), .val (.int pd), .val (.long a2), .second, .val (.long b2), .second, .val (.long c2), .second, .val (.long d2), .second, .val (.ref b1), .val (.ref b5), .val (.int md), .val (.int (0 : Int32))] [(.ref b5), (.ref b1)])) (fun _ ks => XS.aload X7.here hx rfl (hb hby at_260) rfl rfl ks) ?_
                            obtain ⟨cq27, kq27, qa27, qb27, qc27⟩ := isOf hZ rfl (((A1.keep KK3).ext E5).keep KK7)
                            obtain ⟨_, _, ⟨T27, L27, k27, n27⟩, -, X27, ⟨Lc27, hQ27, l27, y27, z27⟩, st27⟩ := X7.virtualBack hx (y := (⟨"com/example/weaverbird/weaverbird/model/RetryCounts", "equals", "(Ljava/lang/Object;)Z"⟩ : MethodName)) (z := (⟨"com/example/weaverbird/weaverbird/model/RetryCounts", "equals", "(Ljava/lang/Object;)Z"⟩ : MethodName)) hown (mvT hZ (hw _ (List.mem_of_getElem? (i := 17) rfl))) (mvT hZ (hw _ (List.mem_of_getElem? (i := 18) rfl))) (notFace_of_selects (args := #[]) (mvT hZ (hw _ (List.mem_of_getElem? (i := 20) rfl)))) (mvT hZ (hw _ (List.mem_of_getElem? (i := 20) rfl))) (mvT hZ (hw _ (List.mem_of_getElem? (i := 19) rfl))) (by decide) (backOf (W := 0) (rm3 l Z a0 hw [] b1 b5 q0 q1 q2 q3 a2 b2 c2 d2 T7.heap n0 z8 ((FF3_0.ext E5).keep KK7 (ninS ne_b1_b5 nin0)) ((FF3_1.ext E5).keep KK7 (ninS ne_b1_b5 nin0)) ((FF3_2.ext E5).keep KK7 (ninS ne_b1_b5 nin0)) ((FF3_3.ext E5).keep KK7 (ninS ne_b1_b5 nin0)) FF7_0 FF7_1 FF7_2 FF7_3 (A5.keep KK7)) hZ (hw _ (List.mem_of_getElem? (i := 21) rfl)) (hw _ (List.mem_of_getElem? (i := 2) rfl)) (by decide) (by decide)) qa27 qc27 (g := (mkF m 262 #[.val (.long q0), .second, .val (.long q1), .second, .val (.long q2), .second, .val (.long q3), .second, .val (.long q4), .second, .val (.int p5), .val (.int pa), .val (.int pb), .val (.int pc), .val (.int pd), .val (.long a2), .second, .val (.long b2), .second, .val (.long c2), .second, .val (.long d2), .second, .val (.ref b1), .val (.ref b5), .val (.int md), .val (.int (0 : Int32))] [(.ref b5), (.ref b1)])) rfl (by rw [hml]; rfl) (Steps.refl _) (argsL := [(.ref b5)]) (rest := []) (lenOf pd3 rfl) rfl (by show 2 * 0 + _ ≤ _; exact Nat.le_of_eq rfl) (hb hby at_262) (fun _ _ => ⟨rfl, rfl, (by decide : 2 + 0 ≤ _), (by decide : 8 + 0 ≤ _)⟩)
                            dsimp only [Pt.U, Pt.locs, Pt.cells, Pt.slots] at X27 l27 y27 z27 st27 hQ27
                            rw [l27, y27, z27] at X27
                            obtain ⟨rfl, N27q, e27⟩ := hQ27
                            have N27 := Fr.app N7 N27q
                            refine Dn.by (U' := T27.setTop (mkF m 265 #[.val (.long q0), .second, .val (.long q1), .second, .val (.long q2), .second, .val (.long q3), .second, .val (.long q4), .second, .val (.int p5), .val (.int pa), .val (.int pb), .val (.int pc), .val (.int pd), .val (.long a2), .second, .val (.long b2), .second, .val (.long c2), .second, .val (.long d2), .second, .val (.ref b1), .val (.ref b5), .val (.int md), .val (.int (0 : Int32))] [(.int (eqC b1 b5 q0 q1 q2 q3 a2 b2 c2 d2))])) (fun _ ks => st27.trans ks) ?_
                            refine Dn.by (U' := T27.setTop (mkF m 267 #[.val (.long q0), .second, .val (.long q1), .second, .val (.long q2), .second, .val (.long q3), .second, .val (.long q4), .second, .val (.int p5), .val (.int pa), .val (.int pb), .val (.int pc), .val (.int pd), .val (.long a2), .second, .val (.long b2), .second, .val (.long c2), .second, .val (.long d2), .second, .val (.ref b1), .val (.ref b5), .val (.int md), .val (.int (0 : Int32))] [(.int (0 : Int32)), (.int (eqC b1 b5 q0 q1 q2 q3 a2 b2 c2 d2))])) (fun _ ks => XS.iload X27.here hx rfl (hb hby at_265) rfl ks) ?_
                            refine Dn.by (U' := T27.setTop (mkF m 270 #[.val (.long q0), .second, .val (.long q1), .second, .val (.long q2), .second, .val (.long q3), .second, .val (.long q4), .second, .val (.int p5), .val (.int pa), .val (.int pb), .val (.int pc), .val (.int pd), .val (.long a2), .second, .val (.long b2), .second, .val (.long c2), .second, .val (.long d2), .second, .val (.ref b1), .val (.ref b5), .val (.int md), .val (.int (0 : Int32))] [])) (fun _ ks => XS.icmpNo X27.here hx rfl (hb hby at_267) rfl (teq (by simp only [eqC, if_pos c225_17, if_neg c232_18])).2 ks) ?_
                            refine Dn.by (U' := T27.setTop (mkF m 272 #[.val (.long q0), .second, .val (.long q1), .second, .val (.long q2), .second, .val (.long q3), .second, .val (.long q4), .second, .val (.int p5), .val (.int pa), .val (.int pb), .val (.int pc), .val (.int pd), .val (.long a2), .second, .val (.long b2), .second, .val (.long c2), .second, .val (.long d2), .second, .val (.ref b1), .val (.ref b5), .val (.int md), .val (.int (0 : Int32))] [(.ref b5)])) (fun _ ks => XS.aload X27.here hx rfl (hb hby at_270) rfl rfl ks) ?_
                            refine Dn.by (U' := T27.setTop (mkF m 274 #[.val (.long q0), .second, .val (.long q1), .second, .val (.long q2), .second, .val (.long q3), .second, .val (.long q4), .second, .val (.int p5), .val (.int pa), .val (.int pb), .val (.int pc), .val (.int pd), .val (.long a2), .second, .val (.long b2), .second, .val (.long c2), .second, .val (.long d2), .second, .val (.ref b1), .val (.ref b5), .val (.int md), .val (.int (0 : Int32))] [(.ref b1), (.ref b5)])) (fun _ ks => XS.aload X27.here hx rfl (hb hby at_272) rfl rfl ks) ?_
                            obtain ⟨cq28, kq28, qa28, qb28, qc28⟩ := isOf hZ e27 (A5.keep KK7)
                            obtain ⟨_, _, ⟨T28, L28, k28, n28⟩, -, X28, ⟨Lc28, hQ28, l28, y28, z28⟩, st28⟩ := X27.virtualBack hx (y := (⟨"com/example/weaverbird/weaverbird/model/RetryCounts", "equals", "(Ljava/lang/Object;)Z"⟩ : MethodName)) (z := (⟨"com/example/weaverbird/weaverbird/model/RetryCounts", "equals", "(Ljava/lang/Object;)Z"⟩ : MethodName)) hown (mvT hZ (hw _ (List.mem_of_getElem? (i := 17) rfl))) (mvT hZ (hw _ (List.mem_of_getElem? (i := 18) rfl))) (notFace_of_selects (args := #[]) (mvT hZ (hw _ (List.mem_of_getElem? (i := 20) rfl)))) (mvT hZ (hw _ (List.mem_of_getElem? (i := 20) rfl))) (mvT hZ (hw _ (List.mem_of_getElem? (i := 19) rfl))) (by decide) (backOf (W := 0) (rm3 l Z a0 hw [] b5 b1 a2 b2 c2 d2 q0 q1 q2 q3 T7.heap n0 z8 FF7_0 FF7_1 FF7_2 FF7_3 ((FF3_0.ext E5).keep KK7 (ninS ne_b1_b5 nin0)) ((FF3_1.ext E5).keep KK7 (ninS ne_b1_b5 nin0)) ((FF3_2.ext E5).keep KK7 (ninS ne_b1_b5 nin0)) ((FF3_3.ext E5).keep KK7 (ninS ne_b1_b5 nin0)) (((A1.keep KK3).ext E5).keep KK7)) hZ (hw _ (List.mem_of_getElem? (i := 21) rfl)) (hw _ (List.mem_of_getElem? (i := 2) rfl)) (by decide) (by decide)) qa28 qc28 (g := (mkF m 274 #[.val (.long q0), .second, .val (.long q1), .second, .val (.long q2), .second, .val (.long q3), .second, .val (.long q4), .second, .val (.int p5), .val (.int pa), .val (.int pb), .val (.int pc), .val (.int pd), .val (.long a2), .second, .val (.long b2), .second, .val (.long c2), .second, .val (.long d2), .second, .val (.ref b1), .val (.ref b5), .val (.int md), .val (.int (0 : Int32))] [(.ref b1), (.ref b5)])) rfl (by rw [hml]; rfl) (Steps.refl _) (argsL := [(.ref b1)]) (rest := []) (lenOf pd3 rfl) rfl (by show 2 * 0 + _ ≤ _; exact Nat.le_of_eq rfl) (hb hby at_274) (fun _ _ => ⟨rfl, e27, (by decide : 2 + 0 ≤ _), (by decide : 8 + 0 ≤ _)⟩)
                            dsimp only [Pt.U, Pt.locs, Pt.cells, Pt.slots] at X28 l28 y28 z28 st28 hQ28
                            rw [l28, y28, z28] at X28
                            obtain ⟨rfl, N28q, e28⟩ := hQ28
                            have N28 := Fr.app N27 N28q
                            refine Dn.by (U' := T28.setTop (mkF m 277 #[.val (.long q0), .second, .val (.long q1), .second, .val (.long q2), .second, .val (.long q3), .second, .val (.long q4), .second, .val (.int p5), .val (.int pa), .val (.int pb), .val (.int pc), .val (.int pd), .val (.long a2), .second, .val (.long b2), .second, .val (.long c2), .second, .val (.long d2), .second, .val (.ref b1), .val (.ref b5), .val (.int md), .val (.int (0 : Int32))] [(.int (eqC b5 b1 a2 b2 c2 d2 q0 q1 q2 q3))])) (fun _ ks => st28.trans ks) ?_
                            refine Dn.by (U' := T28.setTop (mkF m 279 #[.val (.long q0), .second, .val (.long q1), .second, .val (.long q2), .second, .val (.long q3), .second, .val (.long q4), .second, .val (.int p5), .val (.int pa), .val (.int pb), .val (.int pc), .val (.int pd), .val (.long a2), .second, .val (.long b2), .second, .val (.long c2), .second, .val (.long d2), .second, .val (.ref b1), .val (.ref b5), .val (.int md), .val (.int (0 : Int32))] [(.int (0 : Int32)), (.int (eqC b5 b1 a2 b2 c2 d2 q0 q1 q2 q3))])) (fun _ ks => XS.iload X28.here hx rfl (hb hby at_277) rfl ks) ?_
                            refine Dn.by (U' := T28.setTop (mkF m 282 #[.val (.long q0), .second, .val (.long q1), .second, .val (.long q2), .second, .val (.long q3), .second, .val (.long q4), .second, .val (.int p5), .val (.int pa), .val (.int pb), .val (.int pc), .val (.int pd), .val (.long a2), .second, .val (.long b2), .second, .val (.long c2), .second, .val (.long d2), .second, .val (.ref b1), .val (.ref b5), .val (.int md), .val (.int (0 : Int32))] [])) (fun _ ks => XS.icmpNo X28.here hx rfl (hb hby at_279) rfl (teq (by simp only [eqC, if_pos c225_17.symm, if_neg (Ne.symm c232_18)])).2 ks) ?_
                            refine Dn.by (U' := T28.setTop (mkF m 283 #[.val (.long q0), .second, .val (.long q1), .second, .val (.long q2), .second, .val (.long q3), .second, .val (.long q4), .second, .val (.int p5), .val (.int pa), .val (.int pb), .val (.int pc), .val (.int pd), .val (.long a2), .second, .val (.long b2), .second, .val (.long c2), .second, .val (.long d2), .second, .val (.ref b1), .val (.ref b5), .val (.int md), .val (.int (0 : Int32))] [(.int (1 : Int32))])) (fun _ ks => XS.iconst X28.here hx rfl (hb hby at_282)  ks) ?_
                            refine Dn.by (U' := T28.setTop (mkF m 287 #[.val (.long q0), .second, .val (.long q1), .second, .val (.long q2), .second, .val (.long q3), .second, .val (.long q4), .second, .val (.int p5), .val (.int pa), .val (.int pb), .val (.int pc), .val (.int pd), .val (.long a2), .second, .val (.long b2), .second, .val (.long c2), .second, .val (.long d2), .second, .val (.ref b1), .val (.ref b5), .val (.int md), .val (.int (0 : Int32))] [(.int (1 : Int32))])) (fun _ ks => XS.goto X28.here hx rfl (pc0 := 283) (pc' := 287) rfl (hb hby at_283) (by decide) (by decide) ks) ?_
                            refine Dn.out X28 (v := (some (.int (1 : Int32)))) (fun h => by rw [Bd.returns] at h; cases h) (BodyLoose.notSynchronized Bd) (fun _ hr => retN X28 hx (t := .boolean) Bd.returns (by simp) (hb hby at_287) hr) (by decide) (by decide) ?_
                            rw [e28]
                            exact ⟨rfl, N28⟩
                        ·
                          refine Dn.by (U' := T7.setTop (mkF m 255 #[.val (.long q0), .second, .val (.long q1), .second, .val (.long q2), .second, .val (.long q3), .second, .val (.long q4), .second, .val (.int p5), .val (.int pa), .val (.int pb), .val (.int pc), .val (.int pd), .val (.long a2), .second, .val (.long b2), .second, .val (.long c2), .second, .val (.long d2), .second, .val (.ref b1), .val (.ref b5), .val (.int md), .unset] [])) (fun _ ks => XS.ifYes X7.here hx rfl (pc0 := 225) (pc' := 255) rfl (hb hby at_225) rfl ((if0 _ _).trans (feq (fun z => c225_17 ((lw_eq _ _).mp z))).2) (by decide) (by decide) ks) ?_
                          refine Dn.by (U' := T7.setTop (mkF m 256 #[.val (.long q0), .second, .val (.long q1), .second, .val (.long q2), .second, .val (.long q3), .second, .val (.long q4), .second, .val (.int p5), .val (.int pa), .val (.int pb), .val (.int pc), .val (.int pd), .val (.long a2), .second, .val (.long b2), .second, .val (.long c2), .second, .val (.long d2), .second, .val (.ref b1), .val (.ref b5), .val (.int md), .unset] [(.int (0 : Int32))])) (fun _ ks => XS.iconst X7.here hx rfl (hb hby at_255)  ks) ?_
                          refine Dn.by (U' := T7.setTop (mkF m 258 #[.val (.long q0), .second, .val (.long q1), .second, .val (.long q2), .second, .val (.long q3), .second, .val (.long q4), .second, .val (.int p5), .val (.int pa), .val (.int pb), .val (.int pc), .val (.int pd), .val (.long a2), .second, .val (.long b2), .second, .val (.long c2), .second, .val (.long d2), .second, .val (.ref b1), .val (.ref b5), .val (.int md), .val (.int (0 : Int32))] [])) (fun _ ks => XS.istore X7.here hx rfl (hb hby at_256) rfl (l' := #[.val (.long q0), .second, .val (.long q1), .second, .val (.long q2), .second, .val (.long q3), .second, .val (.long q4), .second, .val (.int p5), .val (.int pa), .val (.int pb), .val (.int pc), .val (.int pd), .val (.long a2), .second, .val (.long b2), .second, .val (.long c2), .second, .val (.long d2), .second, .val (.ref b1), .val (.ref b5), .val (.int md), .val (.int (0 : Int32))]) rfl ks) ?_
                          refine Dn.by (U' := T7.setTop (mkF m 260 #[.val (.long q0), .second, .val (.long q1), .second, .val (.long q2), .second, .val (.long q3), .second, .val (.long q4), .second, .val (.int p5), .val (.int pa), .val (.int pb), .val (.int pc), .val (.int pd), .val (.long a2), .second, .val (.long b2), .second, .val (.long c2), .second, .val (.long d2), .second, .val (.ref b1), .val (.ref b5), .val (.int md), .val (.int (0 : Int32))] [(.ref b1)])) (fun _ ks => XS.aload X7.here hx rfl (hb hby at_258) rfl rfl ks) ?_
                          refine Dn.by (U' := T7.setTop (mkF m 262 #[.val (.long q0), .second, .val (.long q1), .second, .val (.long q2), .second, .val (.long q3), .second, .val (.long q4), .second, .val (.int p5), .val (.int pa), .val (.int pb), .val (.int pc), .val (.int pd), .val (.long a2), .second, .val (.long b2), .second, .val (.long c2), .second, .val (.long d2), .second, .val (.ref b1), .val (.ref b5), .val (.int md), .val (.int (0 : Int32))] [(.ref b5), (.ref b1)])) (fun _ ks => XS.aload X7.here hx rfl (hb hby at_260) rfl rfl ks) ?_
                          obtain ⟨cq29, kq29, qa29, qb29, qc29⟩ := isOf hZ rfl (((A1.keep KK3).ext E5).keep KK7)
                          obtain ⟨_, _, ⟨T29, L29, k29, n29⟩, -, X29, ⟨Lc29, hQ29, l29, y29, z29⟩, st29⟩ := X7.virtualBack hx (y := (⟨"com/example/weaverbird/weaverbird/model/RetryCounts", "equals", "(Ljava/lang/Object;)Z"⟩ : MethodName)) (z := (⟨"com/example/weaverbird/weaverbird/model/RetryCounts", "equals", "(Ljava/lang/Object;)Z"⟩ : MethodName)) hown (mvT hZ (hw _ (List.mem_of_getElem? (i := 17) rfl))) (mvT hZ (hw _ (List.mem_of_getElem? (i := 18) rfl))) (notFace_of_selects (args := #[]) (mvT hZ (hw _ (List.mem_of_getElem? (i := 20) rfl)))) (mvT hZ (hw _ (List.mem_of_getElem? (i := 20) rfl))) (mvT hZ (hw _ (List.mem_of_getElem? (i := 19) rfl))) (by decide) (backOf (W := 0) (rm3 l Z a0 hw [] b1 b5 q0 q1 q2 q3 a2 b2 c2 d2 T7.heap n0 z8 ((FF3_0.ext E5).keep KK7 (ninS ne_b1_b5 nin0)) ((FF3_1.ext E5).keep KK7 (ninS ne_b1_b5 nin0)) ((FF3_2.ext E5).keep KK7 (ninS ne_b1_b5 nin0)) ((FF3_3.ext E5).keep KK7 (ninS ne_b1_b5 nin0)) FF7_0 FF7_1 FF7_2 FF7_3 (A5.keep KK7)) hZ (hw _ (List.mem_of_getElem? (i := 21) rfl)) (hw _ (List.mem_of_getElem? (i := 2) rfl)) (by decide) (by decide)) qa29 qc29 (g := (mkF m 262 #[.val (.long q0), .second, .val (.long q1), .second, .val (.long q2), .second, .val (.long q3), .second, .val (.long q4), .second, .val (.int p5), .val (.int pa), .val (.int pb), .val (.int pc), .val (.int pd), .val (.long a2), .second, .val (.long b2), .second, .val (.long c2), .second, .val (.long d2), .second, .val (.ref b1), .val (.ref b5), .val (.int md), .val (.int (0 : Int32))] [(.ref b5), (.ref b1)])) rfl (by rw [hml]; rfl) (Steps.refl _) (argsL := [(.ref b5)]) (rest := []) (lenOf pd3 rfl) rfl (by show 2 * 0 + _ ≤ _; exact Nat.le_of_eq rfl) (hb hby at_262) (fun _ _ => ⟨rfl, rfl, (by decide : 2 + 0 ≤ _), (by decide : 8 + 0 ≤ _)⟩)
                          dsimp only [Pt.U, Pt.locs, Pt.cells, Pt.slots] at X29 l29 y29 z29 st29 hQ29
                          rw [l29, y29, z29] at X29
                          obtain ⟨rfl, N29q, e29⟩ := hQ29
                          have N29 := Fr.app N7 N29q
                          refine Dn.by (U' := T29.setTop (mkF m 265 #[.val (.long q0), .second, .val (.long q1), .second, .val (.long q2), .second, .val (.long q3), .second, .val (.long q4), .second, .val (.int p5), .val (.int pa), .val (.int pb), .val (.int pc), .val (.int pd), .val (.long a2), .second, .val (.long b2), .second, .val (.long c2), .second, .val (.long d2), .second, .val (.ref b1), .val (.ref b5), .val (.int md), .val (.int (0 : Int32))] [(.int (eqC b1 b5 q0 q1 q2 q3 a2 b2 c2 d2))])) (fun _ ks => st29.trans ks) ?_
                          refine Dn.by (U' := T29.setTop (mkF m 267 #[.val (.long q0), .second, .val (.long q1), .second, .val (.long q2), .second, .val (.long q3), .second, .val (.long q4), .second, .val (.int p5), .val (.int pa), .val (.int pb), .val (.int pc), .val (.int pd), .val (.long a2), .second, .val (.long b2), .second, .val (.long c2), .second, .val (.long d2), .second, .val (.ref b1), .val (.ref b5), .val (.int md), .val (.int (0 : Int32))] [(.int (0 : Int32)), (.int (eqC b1 b5 q0 q1 q2 q3 a2 b2 c2 d2))])) (fun _ ks => XS.iload X29.here hx rfl (hb hby at_265) rfl ks) ?_
                          refine Dn.by (U' := T29.setTop (mkF m 270 #[.val (.long q0), .second, .val (.long q1), .second, .val (.long q2), .second, .val (.long q3), .second, .val (.long q4), .second, .val (.int p5), .val (.int pa), .val (.int pb), .val (.int pc), .val (.int pd), .val (.long a2), .second, .val (.long b2), .second, .val (.long c2), .second, .val (.long d2), .second, .val (.ref b1), .val (.ref b5), .val (.int md), .val (.int (0 : Int32))] [])) (fun _ ks => XS.icmpNo X29.here hx rfl (hb hby at_267) rfl (teq (by simp only [eqC, if_neg c225_17])).2 ks) ?_
                          refine Dn.by (U' := T29.setTop (mkF m 272 #[.val (.long q0), .second, .val (.long q1), .second, .val (.long q2), .second, .val (.long q3), .second, .val (.long q4), .second, .val (.int p5), .val (.int pa), .val (.int pb), .val (.int pc), .val (.int pd), .val (.long a2), .second, .val (.long b2), .second, .val (.long c2), .second, .val (.long d2), .second, .val (.ref b1), .val (.ref b5), .val (.int md), .val (.int (0 : Int32))] [(.ref b5)])) (fun _ ks => XS.aload X29.here hx rfl (hb hby at_270) rfl rfl ks) ?_
                          refine Dn.by (U' := T29.setTop (mkF m 274 #[.val (.long q0), .second, .val (.long q1), .second, .val (.long q2), .second, .val (.long q3), .second, .val (.long q4), .second, .val (.int p5), .val (.int pa), .val (.int pb), .val (.int pc), .val (.int pd), .val (.long a2), .second, .val (.long b2), .second, .val (.long c2), .second, .val (.long d2), .second, .val (.ref b1), .val (.ref b5), .val (.int md), .val (.int (0 : Int32))] [(.ref b1), (.ref b5)])) (fun _ ks => XS.aload X29.here hx rfl (hb hby at_272) rfl rfl ks) ?_
                          obtain ⟨cq30, kq30, qa30, qb30, qc30⟩ := isOf hZ e29 (A5.keep KK7)
                          obtain ⟨_, _, ⟨T30, L30, k30, n30⟩, -, X30, ⟨Lc30, hQ30, l30, y30, z30⟩, st30⟩ := X29.virtualBack hx (y := (⟨"com/example/weaverbird/weaverbird/model/RetryCounts", "equals", "(Ljava/lang/Object;)Z"⟩ : MethodName)) (z := (⟨"com/example/weaverbird/weaverbird/model/RetryCounts", "equals", "(Ljava/lang/Object;)Z"⟩ : MethodName)) hown (mvT hZ (hw _ (List.mem_of_getElem? (i := 17) rfl))) (mvT hZ (hw _ (List.mem_of_getElem? (i := 18) rfl))) (notFace_of_selects (args := #[]) (mvT hZ (hw _ (List.mem_of_getElem? (i := 20) rfl)))) (mvT hZ (hw _ (List.mem_of_getElem? (i := 20) rfl))) (mvT hZ (hw _ (List.mem_of_getElem? (i := 19) rfl))) (by decide) (backOf (W := 0) (rm3 l Z a0 hw [] b5 b1 a2 b2 c2 d2 q0 q1 q2 q3 T7.heap n0 z8 FF7_0 FF7_1 FF7_2 FF7_3 ((FF3_0.ext E5).keep KK7 (ninS ne_b1_b5 nin0)) ((FF3_1.ext E5).keep KK7 (ninS ne_b1_b5 nin0)) ((FF3_2.ext E5).keep KK7 (ninS ne_b1_b5 nin0)) ((FF3_3.ext E5).keep KK7 (ninS ne_b1_b5 nin0)) (((A1.keep KK3).ext E5).keep KK7)) hZ (hw _ (List.mem_of_getElem? (i := 21) rfl)) (hw _ (List.mem_of_getElem? (i := 2) rfl)) (by decide) (by decide)) qa30 qc30 (g := (mkF m 274 #[.val (.long q0), .second, .val (.long q1), .second, .val (.long q2), .second, .val (.long q3), .second, .val (.long q4), .second, .val (.int p5), .val (.int pa), .val (.int pb), .val (.int pc), .val (.int pd), .val (.long a2), .second, .val (.long b2), .second, .val (.long c2), .second, .val (.long d2), .second, .val (.ref b1), .val (.ref b5), .val (.int md), .val (.int (0 : Int32))] [(.ref b1), (.ref b5)])) rfl (by rw [hml]; rfl) (Steps.refl _) (argsL := [(.ref b1)]) (rest := []) (lenOf pd3 rfl) rfl (by show 2 * 0 + _ ≤ _; exact Nat.le_of_eq rfl) (hb hby at_274) (fun _ _ => ⟨rfl, e29, (by decide : 2 + 0 ≤ _), (by decide : 8 + 0 ≤ _)⟩)
                          dsimp only [Pt.U, Pt.locs, Pt.cells, Pt.slots] at X30 l30 y30 z30 st30 hQ30
                          rw [l30, y30, z30] at X30
                          obtain ⟨rfl, N30q, e30⟩ := hQ30
                          have N30 := Fr.app N29 N30q
                          refine Dn.by (U' := T30.setTop (mkF m 277 #[.val (.long q0), .second, .val (.long q1), .second, .val (.long q2), .second, .val (.long q3), .second, .val (.long q4), .second, .val (.int p5), .val (.int pa), .val (.int pb), .val (.int pc), .val (.int pd), .val (.long a2), .second, .val (.long b2), .second, .val (.long c2), .second, .val (.long d2), .second, .val (.ref b1), .val (.ref b5), .val (.int md), .val (.int (0 : Int32))] [(.int (eqC b5 b1 a2 b2 c2 d2 q0 q1 q2 q3))])) (fun _ ks => st30.trans ks) ?_
                          refine Dn.by (U' := T30.setTop (mkF m 279 #[.val (.long q0), .second, .val (.long q1), .second, .val (.long q2), .second, .val (.long q3), .second, .val (.long q4), .second, .val (.int p5), .val (.int pa), .val (.int pb), .val (.int pc), .val (.int pd), .val (.long a2), .second, .val (.long b2), .second, .val (.long c2), .second, .val (.long d2), .second, .val (.ref b1), .val (.ref b5), .val (.int md), .val (.int (0 : Int32))] [(.int (0 : Int32)), (.int (eqC b5 b1 a2 b2 c2 d2 q0 q1 q2 q3))])) (fun _ ks => XS.iload X30.here hx rfl (hb hby at_277) rfl ks) ?_
                          refine Dn.by (U' := T30.setTop (mkF m 282 #[.val (.long q0), .second, .val (.long q1), .second, .val (.long q2), .second, .val (.long q3), .second, .val (.long q4), .second, .val (.int p5), .val (.int pa), .val (.int pb), .val (.int pc), .val (.int pd), .val (.long a2), .second, .val (.long b2), .second, .val (.long c2), .second, .val (.long d2), .second, .val (.ref b1), .val (.ref b5), .val (.int md), .val (.int (0 : Int32))] [])) (fun _ ks => XS.icmpNo X30.here hx rfl (hb hby at_279) rfl (teq (by simp only [eqC, if_neg (Ne.symm c225_17)])).2 ks) ?_
                          refine Dn.by (U' := T30.setTop (mkF m 283 #[.val (.long q0), .second, .val (.long q1), .second, .val (.long q2), .second, .val (.long q3), .second, .val (.long q4), .second, .val (.int p5), .val (.int pa), .val (.int pb), .val (.int pc), .val (.int pd), .val (.long a2), .second, .val (.long b2), .second, .val (.long c2), .second, .val (.long d2), .second, .val (.ref b1), .val (.ref b5), .val (.int md), .val (.int (0 : Int32))] [(.int (1 : Int32))])) (fun _ ks => XS.iconst X30.here hx rfl (hb hby at_282)  ks) ?_
                          refine Dn.by (U' := T30.setTop (mkF m 287 #[.val (.long q0), .second, .val (.long q1), .second, .val (.long q2), .second, .val (.long q3), .second, .val (.long q4), .second, .val (.int p5), .val (.int pa), .val (.int pb), .val (.int pc), .val (.int pd), .val (.long a2), .second, .val (.long b2), .second, .val (.long c2), .second, .val (.long d2), .second, .val (.ref b1), .val (.ref b5), .val (.int md), .val (.int (0 : Int32))] [(.int (1 : Int32))])) (fun _ ks => XS.goto X30.here hx rfl (pc0 := 283) (pc' := 287) rfl (hb hby at_283) (by decide) (by decide) ks) ?_
                          refine Dn.out X30 (v := (some (.int (1 : Int32)))) (fun h => by rw [Bd.returns] at h; cases h) (BodyLoose.notSynchronized Bd) (fun _ hr => retN X30 hx (t := .boolean) Bd.returns (by simp) (hb hby at_287) hr) (by decide) (by decide) ?_
                          rw [e30]
                          exact ⟨rfl, N30⟩
                by_cases c106_31 : pd = (0 : Int32)
                ·
                  refine Dn.by (U' := s₁.setTop (mkF m 117 #[.val (.long q0), .second, .val (.long q1), .second, .val (.long q2), .second, .val (.long q3), .second, .val (.long q4), .second, .val (.int p5), .val (.int pa), .val (.int pb), .val (.int pc), .val (.int pd), .val (.long a2), .second, .val (.long b2), .second, .val (.long c2), .second, .unset, .unset, .unset, .unset, .unset, .unset] [])) (fun _ ks => XS.ifYes X0.here hx rfl (pc0 := 106) (pc' := 117) rfl (hb hby at_106) rfl ((if0 _ _).trans (teq c106_31).1) (by decide) (by decide) ks) ?_
                  refine Dn.by (U' := s₁.setTop (mkF m 119 #[.val (.long q0), .second, .val (.long q1), .second, .val (.long q2), .second, .val (.long q3), .second, .val (.long q4), .second, .val (.int p5), .val (.int pa), .val (.int pb), .val (.int pc), .val (.int pd), .val (.long a2), .second, .val (.long b2), .second, .val (.long c2), .second, .unset, .unset, .unset, .unset, .unset, .unset] [(.long q3)])) (fun _ ks => XS.lload X0.here hx rfl (hb hby at_117) rfl ks) ?_
                  exact Jd2 _
                ·
                  refine Dn.by (U' := s₁.setTop (mkF m 109 #[.val (.long q0), .second, .val (.long q1), .second, .val (.long q2), .second, .val (.long q3), .second, .val (.long q4), .second, .val (.int p5), .val (.int pa), .val (.int pb), .val (.int pc), .val (.int pd), .val (.long a2), .second, .val (.long b2), .second, .val (.long c2), .second, .unset, .unset, .unset, .unset, .unset, .unset] [])) (fun _ ks => XS.ifNo X0.here hx rfl (hb hby at_106) rfl ((if0 _ _).trans (feq c106_31).1) ks) ?_
                  refine Dn.by (U' := s₁.setTop (mkF m 111 #[.val (.long q0), .second, .val (.long q1), .second, .val (.long q2), .second, .val (.long q3), .second, .val (.long q4), .second, .val (.int p5), .val (.int pa), .val (.int pb), .val (.int pc), .val (.int pd), .val (.long a2), .second, .val (.long b2), .second, .val (.long c2), .second, .unset, .unset, .unset, .unset, .unset, .unset] [(.long q3)])) (fun _ ks => XS.lload X0.here hx rfl (hb hby at_109) rfl ks) ?_
                  refine Dn.by (U' := s₁.setTop (mkF m 113 #[.val (.long q0), .second, .val (.long q1), .second, .val (.long q2), .second, .val (.long q3), .second, .val (.long q4), .second, .val (.int p5), .val (.int pa), .val (.int pb), .val (.int pc), .val (.int pd), .val (.long a2), .second, .val (.long b2), .second, .val (.long c2), .second, .unset, .unset, .unset, .unset, .unset, .unset] [(.long q4), (.long q3)])) (fun _ ks => XS.lload X0.here hx rfl (hb hby at_111) rfl ks) ?_
                  refine Dn.by (U' := s₁.setTop (mkF m 114 #[.val (.long q0), .second, .val (.long q1), .second, .val (.long q2), .second, .val (.long q3), .second, .val (.long q4), .second, .val (.int p5), .val (.int pa), .val (.int pb), .val (.int pc), .val (.int pd), .val (.long a2), .second, .val (.long b2), .second, .val (.long c2), .second, .unset, .unset, .unset, .unset, .unset, .unset] [(.long (q3 + q4))])) (fun _ ks => XS.ladd X0.here hx rfl (hb hby at_113) rfl ks) ?_
                  refine Dn.by (U' := s₁.setTop (mkF m 119 #[.val (.long q0), .second, .val (.long q1), .second, .val (.long q2), .second, .val (.long q3), .second, .val (.long q4), .second, .val (.int p5), .val (.int pa), .val (.int pb), .val (.int pc), .val (.int pd), .val (.long a2), .second, .val (.long b2), .second, .val (.long c2), .second, .unset, .unset, .unset, .unset, .unset, .unset] [(.long (q3 + q4))])) (fun _ ks => XS.goto X0.here hx rfl (pc0 := 114) (pc' := 119) rfl (hb hby at_114) (by decide) (by decide) ks) ?_
                  exact Jd2 _
              by_cases c89_32 : pc = (0 : Int32)
              ·
                refine Dn.by (U' := s₁.setTop (mkF m 100 #[.val (.long q0), .second, .val (.long q1), .second, .val (.long q2), .second, .val (.long q3), .second, .val (.long q4), .second, .val (.int p5), .val (.int pa), .val (.int pb), .val (.int pc), .val (.int pd), .val (.long a2), .second, .val (.long b2), .second, .unset, .unset, .unset, .unset, .unset, .unset, .unset, .unset] [])) (fun _ ks => XS.ifYes X0.here hx rfl (pc0 := 89) (pc' := 100) rfl (hb hby at_89) rfl ((if0 _ _).trans (teq c89_32).1) (by decide) (by decide) ks) ?_
                refine Dn.by (U' := s₁.setTop (mkF m 102 #[.val (.long q0), .second, .val (.long q1), .second, .val (.long q2), .second, .val (.long q3), .second, .val (.long q4), .second, .val (.int p5), .val (.int pa), .val (.int pb), .val (.int pc), .val (.int pd), .val (.long a2), .second, .val (.long b2), .second, .unset, .unset, .unset, .unset, .unset, .unset, .unset, .unset] [(.long q2)])) (fun _ ks => XS.lload X0.here hx rfl (hb hby at_100) rfl ks) ?_
                exact Jc2 _
              ·
                refine Dn.by (U' := s₁.setTop (mkF m 92 #[.val (.long q0), .second, .val (.long q1), .second, .val (.long q2), .second, .val (.long q3), .second, .val (.long q4), .second, .val (.int p5), .val (.int pa), .val (.int pb), .val (.int pc), .val (.int pd), .val (.long a2), .second, .val (.long b2), .second, .unset, .unset, .unset, .unset, .unset, .unset, .unset, .unset] [])) (fun _ ks => XS.ifNo X0.here hx rfl (hb hby at_89) rfl ((if0 _ _).trans (feq c89_32).1) ks) ?_
                refine Dn.by (U' := s₁.setTop (mkF m 94 #[.val (.long q0), .second, .val (.long q1), .second, .val (.long q2), .second, .val (.long q3), .second, .val (.long q4), .second, .val (.int p5), .val (.int pa), .val (.int pb), .val (.int pc), .val (.int pd), .val (.long a2), .second, .val (.long b2), .second, .unset, .unset, .unset, .unset, .unset, .unset, .unset, .unset] [(.long q2)])) (fun _ ks => XS.lload X0.here hx rfl (hb hby at_92) rfl ks) ?_
                refine Dn.by (U' := s₁.setTop (mkF m 96 #[.val (.long q0), .second, .val (.long q1), .second, .val (.long q2), .second, .val (.long q3), .second, .val (.long q4), .second, .val (.int p5), .val (.int pa), .val (.int pb), .val (.int pc), .val (.int pd), .val (.long a2), .second, .val (.long b2), .second, .unset, .unset, .unset, .unset, .unset, .unset, .unset, .unset] [(.long q4), (.long q2)])) (fun _ ks => XS.lload X0.here hx rfl (hb hby at_94) rfl ks) ?_
                refine Dn.by (U' := s₁.setTop (mkF m 97 #[.val (.long q0), .second, .val (.long q1), .second, .val (.long q2), .second, .val (.long q3), .second, .val (.long q4), .second, .val (.int p5), .val (.int pa), .val (.int pb), .val (.int pc), .val (.int pd), .val (.long a2), .second, .val (.long b2), .second, .unset, .unset, .unset, .unset, .unset, .unset, .unset, .unset] [(.long (q2 + q4))])) (fun _ ks => XS.ladd X0.here hx rfl (hb hby at_96) rfl ks) ?_
                refine Dn.by (U' := s₁.setTop (mkF m 102 #[.val (.long q0), .second, .val (.long q1), .second, .val (.long q2), .second, .val (.long q3), .second, .val (.long q4), .second, .val (.int p5), .val (.int pa), .val (.int pb), .val (.int pc), .val (.int pd), .val (.long a2), .second, .val (.long b2), .second, .unset, .unset, .unset, .unset, .unset, .unset, .unset, .unset] [(.long (q2 + q4))])) (fun _ ks => XS.goto X0.here hx rfl (pc0 := 97) (pc' := 102) rfl (hb hby at_97) (by decide) (by decide) ks) ?_
                exact Jc2 _
            by_cases c74_33 : pb = (0 : Int32)
            ·
              refine Dn.by (U' := s₁.setTop (mkF m 84 #[.val (.long q0), .second, .val (.long q1), .second, .val (.long q2), .second, .val (.long q3), .second, .val (.long q4), .second, .val (.int p5), .val (.int pa), .val (.int pb), .val (.int pc), .val (.int pd), .val (.long a2), .second, .unset, .unset, .unset, .unset, .unset, .unset, .unset, .unset, .unset, .unset] [])) (fun _ ks => XS.ifYes X0.here hx rfl (pc0 := 74) (pc' := 84) rfl (hb hby at_74) rfl ((if0 _ _).trans (teq c74_33).1) (by decide) (by decide) ks) ?_
              refine Dn.by (U' := s₁.setTop (mkF m 85 #[.val (.long q0), .second, .val (.long q1), .second, .val (.long q2), .second, .val (.long q3), .second, .val (.long q4), .second, .val (.int p5), .val (.int pa), .val (.int pb), .val (.int pc), .val (.int pd), .val (.long a2), .second, .unset, .unset, .unset, .unset, .unset, .unset, .unset, .unset, .unset, .unset] [(.long q1)])) (fun _ ks => XS.lloadN X0.here hx rfl (hb hby at_84) rfl ks) ?_
              exact Jb2 _
            ·
              refine Dn.by (U' := s₁.setTop (mkF m 77 #[.val (.long q0), .second, .val (.long q1), .second, .val (.long q2), .second, .val (.long q3), .second, .val (.long q4), .second, .val (.int p5), .val (.int pa), .val (.int pb), .val (.int pc), .val (.int pd), .val (.long a2), .second, .unset, .unset, .unset, .unset, .unset, .unset, .unset, .unset, .unset, .unset] [])) (fun _ ks => XS.ifNo X0.here hx rfl (hb hby at_74) rfl ((if0 _ _).trans (feq c74_33).1) ks) ?_
              refine Dn.by (U' := s₁.setTop (mkF m 78 #[.val (.long q0), .second, .val (.long q1), .second, .val (.long q2), .second, .val (.long q3), .second, .val (.long q4), .second, .val (.int p5), .val (.int pa), .val (.int pb), .val (.int pc), .val (.int pd), .val (.long a2), .second, .unset, .unset, .unset, .unset, .unset, .unset, .unset, .unset, .unset, .unset] [(.long q1)])) (fun _ ks => XS.lloadN X0.here hx rfl (hb hby at_77) rfl ks) ?_
              refine Dn.by (U' := s₁.setTop (mkF m 80 #[.val (.long q0), .second, .val (.long q1), .second, .val (.long q2), .second, .val (.long q3), .second, .val (.long q4), .second, .val (.int p5), .val (.int pa), .val (.int pb), .val (.int pc), .val (.int pd), .val (.long a2), .second, .unset, .unset, .unset, .unset, .unset, .unset, .unset, .unset, .unset, .unset] [(.long q4), (.long q1)])) (fun _ ks => XS.lload X0.here hx rfl (hb hby at_78) rfl ks) ?_
              refine Dn.by (U' := s₁.setTop (mkF m 81 #[.val (.long q0), .second, .val (.long q1), .second, .val (.long q2), .second, .val (.long q3), .second, .val (.long q4), .second, .val (.int p5), .val (.int pa), .val (.int pb), .val (.int pc), .val (.int pd), .val (.long a2), .second, .unset, .unset, .unset, .unset, .unset, .unset, .unset, .unset, .unset, .unset] [(.long (q1 + q4))])) (fun _ ks => XS.ladd X0.here hx rfl (hb hby at_80) rfl ks) ?_
              refine Dn.by (U' := s₁.setTop (mkF m 85 #[.val (.long q0), .second, .val (.long q1), .second, .val (.long q2), .second, .val (.long q3), .second, .val (.long q4), .second, .val (.int p5), .val (.int pa), .val (.int pb), .val (.int pc), .val (.int pd), .val (.long a2), .second, .unset, .unset, .unset, .unset, .unset, .unset, .unset, .unset, .unset, .unset] [(.long (q1 + q4))])) (fun _ ks => XS.goto X0.here hx rfl (pc0 := 81) (pc' := 85) rfl (hb hby at_81) (by decide) (by decide) ks) ?_
              exact Jb2 _
          by_cases c59_34 : pa = (0 : Int32)
          ·
            refine Dn.by (U' := s₁.setTop (mkF m 69 #[.val (.long q0), .second, .val (.long q1), .second, .val (.long q2), .second, .val (.long q3), .second, .val (.long q4), .second, .val (.int p5), .val (.int pa), .val (.int pb), .val (.int pc), .val (.int pd), .unset, .unset, .unset, .unset, .unset, .unset, .unset, .unset, .unset, .unset, .unset, .unset] [])) (fun _ ks => XS.ifYes X0.here hx rfl (pc0 := 59) (pc' := 69) rfl (hb hby at_59) rfl ((if0 _ _).trans (teq c59_34).1) (by decide) (by decide) ks) ?_
            refine Dn.by (U' := s₁.setTop (mkF m 70 #[.val (.long q0), .second, .val (.long q1), .second, .val (.long q2), .second, .val (.long q3), .second, .val (.long q4), .second, .val (.int p5), .val (.int pa), .val (.int pb), .val (.int pc), .val (.int pd), .unset, .unset, .unset, .unset, .unset, .unset, .unset, .unset, .unset, .unset, .unset, .unset] [(.long q0)])) (fun _ ks => XS.lloadN X0.here hx rfl (hb hby at_69) rfl ks) ?_
            exact Ja2 _
          ·
            refine Dn.by (U' := s₁.setTop (mkF m 62 #[.val (.long q0), .second, .val (.long q1), .second, .val (.long q2), .second, .val (.long q3), .second, .val (.long q4), .second, .val (.int p5), .val (.int pa), .val (.int pb), .val (.int pc), .val (.int pd), .unset, .unset, .unset, .unset, .unset, .unset, .unset, .unset, .unset, .unset, .unset, .unset] [])) (fun _ ks => XS.ifNo X0.here hx rfl (hb hby at_59) rfl ((if0 _ _).trans (feq c59_34).1) ks) ?_
            refine Dn.by (U' := s₁.setTop (mkF m 63 #[.val (.long q0), .second, .val (.long q1), .second, .val (.long q2), .second, .val (.long q3), .second, .val (.long q4), .second, .val (.int p5), .val (.int pa), .val (.int pb), .val (.int pc), .val (.int pd), .unset, .unset, .unset, .unset, .unset, .unset, .unset, .unset, .unset, .unset, .unset, .unset] [(.long q0)])) (fun _ ks => XS.lloadN X0.here hx rfl (hb hby at_62) rfl ks) ?_
            refine Dn.by (U' := s₁.setTop (mkF m 65 #[.val (.long q0), .second, .val (.long q1), .second, .val (.long q2), .second, .val (.long q3), .second, .val (.long q4), .second, .val (.int p5), .val (.int pa), .val (.int pb), .val (.int pc), .val (.int pd), .unset, .unset, .unset, .unset, .unset, .unset, .unset, .unset, .unset, .unset, .unset, .unset] [(.long q4), (.long q0)])) (fun _ ks => XS.lload X0.here hx rfl (hb hby at_63) rfl ks) ?_
            refine Dn.by (U' := s₁.setTop (mkF m 66 #[.val (.long q0), .second, .val (.long q1), .second, .val (.long q2), .second, .val (.long q3), .second, .val (.long q4), .second, .val (.int p5), .val (.int pa), .val (.int pb), .val (.int pc), .val (.int pd), .unset, .unset, .unset, .unset, .unset, .unset, .unset, .unset, .unset, .unset, .unset, .unset] [(.long (q0 + q4))])) (fun _ ks => XS.ladd X0.here hx rfl (hb hby at_65) rfl ks) ?_
            refine Dn.by (U' := s₁.setTop (mkF m 70 #[.val (.long q0), .second, .val (.long q1), .second, .val (.long q2), .second, .val (.long q3), .second, .val (.long q4), .second, .val (.int p5), .val (.int pa), .val (.int pb), .val (.int pc), .val (.int pd), .unset, .unset, .unset, .unset, .unset, .unset, .unset, .unset, .unset, .unset, .unset, .unset] [(.long (q0 + q4))])) (fun _ ks => XS.goto X0.here hx rfl (pc0 := 66) (pc' := 70) rfl (hb hby at_66) (by decide) (by decide) ks) ?_
            exact Ja2 _
        by_cases c47_35 : (p5 &&& (8 : Int32)) = (0 : Int32)
        ·
          refine Dn.by (U' := s₁.setTop (mkF m 54 #[.val (.long q0), .second, .val (.long q1), .second, .val (.long q2), .second, .val (.long q3), .second, .val (.long q4), .second, .val (.int p5), .val (.int pa), .val (.int pb), .val (.int pc), .unset, .unset, .unset, .unset, .unset, .unset, .unset, .unset, .unset, .unset, .unset, .unset, .unset] [])) (fun _ ks => XS.ifYes X0.here hx rfl (pc0 := 47) (pc' := 54) rfl (hb hby at_47) rfl ((if0 _ _).trans (teq c47_35).1) (by decide) (by decide) ks) ?_
          refine Dn.by (U' := s₁.setTop (mkF m 55 #[.val (.long q0), .second, .val (.long q1), .second, .val (.long q2), .second, .val (.long q3), .second, .val (.long q4), .second, .val (.int p5), .val (.int pa), .val (.int pb), .val (.int pc), .unset, .unset, .unset, .unset, .unset, .unset, .unset, .unset, .unset, .unset, .unset, .unset, .unset] [(.int (0 : Int32))])) (fun _ ks => XS.iconst X0.here hx rfl (hb hby at_54)  ks) ?_
          exact Jpd _
        ·
          refine Dn.by (U' := s₁.setTop (mkF m 50 #[.val (.long q0), .second, .val (.long q1), .second, .val (.long q2), .second, .val (.long q3), .second, .val (.long q4), .second, .val (.int p5), .val (.int pa), .val (.int pb), .val (.int pc), .unset, .unset, .unset, .unset, .unset, .unset, .unset, .unset, .unset, .unset, .unset, .unset, .unset] [])) (fun _ ks => XS.ifNo X0.here hx rfl (hb hby at_47) rfl ((if0 _ _).trans (feq c47_35).1) ks) ?_
          refine Dn.by (U' := s₁.setTop (mkF m 51 #[.val (.long q0), .second, .val (.long q1), .second, .val (.long q2), .second, .val (.long q3), .second, .val (.long q4), .second, .val (.int p5), .val (.int pa), .val (.int pb), .val (.int pc), .unset, .unset, .unset, .unset, .unset, .unset, .unset, .unset, .unset, .unset, .unset, .unset, .unset] [(.int (1 : Int32))])) (fun _ ks => XS.iconst X0.here hx rfl (hb hby at_50)  ks) ?_
          refine Dn.by (U' := s₁.setTop (mkF m 55 #[.val (.long q0), .second, .val (.long q1), .second, .val (.long q2), .second, .val (.long q3), .second, .val (.long q4), .second, .val (.int p5), .val (.int pa), .val (.int pb), .val (.int pc), .unset, .unset, .unset, .unset, .unset, .unset, .unset, .unset, .unset, .unset, .unset, .unset, .unset] [(.int (1 : Int32))])) (fun _ ks => XS.goto X0.here hx rfl (pc0 := 51) (pc' := 55) rfl (hb hby at_51) (by decide) (by decide) ks) ?_
          exact Jpd _
      by_cases c32_36 : (p5 &&& (4 : Int32)) = (0 : Int32)
      ·
        refine Dn.by (U' := s₁.setTop (mkF m 39 #[.val (.long q0), .second, .val (.long q1), .second, .val (.long q2), .second, .val (.long q3), .second, .val (.long q4), .second, .val (.int p5), .val (.int pa), .val (.int pb), .unset, .unset, .unset, .unset, .unset, .unset, .unset, .unset, .unset, .unset, .unset, .unset, .unset, .unset] [])) (fun _ ks => XS.ifYes X0.here hx rfl (pc0 := 32) (pc' := 39) rfl (hb hby at_32) rfl ((if0 _ _).trans (teq c32_36).1) (by decide) (by decide) ks) ?_
        refine Dn.by (U' := s₁.setTop (mkF m 40 #[.val (.long q0), .second, .val (.long q1), .second, .val (.long q2), .second, .val (.long q3), .second, .val (.long q4), .second, .val (.int p5), .val (.int pa), .val (.int pb), .unset, .unset, .unset, .unset, .unset, .unset, .unset, .unset, .unset, .unset, .unset, .unset, .unset, .unset] [(.int (0 : Int32))])) (fun _ ks => XS.iconst X0.here hx rfl (hb hby at_39)  ks) ?_
        exact Jpc _
      ·
        refine Dn.by (U' := s₁.setTop (mkF m 35 #[.val (.long q0), .second, .val (.long q1), .second, .val (.long q2), .second, .val (.long q3), .second, .val (.long q4), .second, .val (.int p5), .val (.int pa), .val (.int pb), .unset, .unset, .unset, .unset, .unset, .unset, .unset, .unset, .unset, .unset, .unset, .unset, .unset, .unset] [])) (fun _ ks => XS.ifNo X0.here hx rfl (hb hby at_32) rfl ((if0 _ _).trans (feq c32_36).1) ks) ?_
        refine Dn.by (U' := s₁.setTop (mkF m 36 #[.val (.long q0), .second, .val (.long q1), .second, .val (.long q2), .second, .val (.long q3), .second, .val (.long q4), .second, .val (.int p5), .val (.int pa), .val (.int pb), .unset, .unset, .unset, .unset, .unset, .unset, .unset, .unset, .unset, .unset, .unset, .unset, .unset, .unset] [(.int (1 : Int32))])) (fun _ ks => XS.iconst X0.here hx rfl (hb hby at_35)  ks) ?_
        refine Dn.by (U' := s₁.setTop (mkF m 40 #[.val (.long q0), .second, .val (.long q1), .second, .val (.long q2), .second, .val (.long q3), .second, .val (.long q4), .second, .val (.int p5), .val (.int pa), .val (.int pb), .unset, .unset, .unset, .unset, .unset, .unset, .unset, .unset, .unset, .unset, .unset, .unset, .unset, .unset] [(.int (1 : Int32))])) (fun _ ks => XS.goto X0.here hx rfl (pc0 := 36) (pc' := 40) rfl (hb hby at_36) (by decide) (by decide) ks) ?_
        exact Jpc _
    by_cases c18_37 : (p5 &&& (2 : Int32)) = (0 : Int32)
    ·
      refine Dn.by (U' := s₁.setTop (mkF m 25 #[.val (.long q0), .second, .val (.long q1), .second, .val (.long q2), .second, .val (.long q3), .second, .val (.long q4), .second, .val (.int p5), .val (.int pa), .unset, .unset, .unset, .unset, .unset, .unset, .unset, .unset, .unset, .unset, .unset, .unset, .unset, .unset, .unset] [])) (fun _ ks => XS.ifYes X0.here hx rfl (pc0 := 18) (pc' := 25) rfl (hb hby at_18) rfl ((if0 _ _).trans (teq c18_37).1) (by decide) (by decide) ks) ?_
      refine Dn.by (U' := s₁.setTop (mkF m 26 #[.val (.long q0), .second, .val (.long q1), .second, .val (.long q2), .second, .val (.long q3), .second, .val (.long q4), .second, .val (.int p5), .val (.int pa), .unset, .unset, .unset, .unset, .unset, .unset, .unset, .unset, .unset, .unset, .unset, .unset, .unset, .unset, .unset] [(.int (0 : Int32))])) (fun _ ks => XS.iconst X0.here hx rfl (hb hby at_25)  ks) ?_
      exact Jpb _
    ·
      refine Dn.by (U' := s₁.setTop (mkF m 21 #[.val (.long q0), .second, .val (.long q1), .second, .val (.long q2), .second, .val (.long q3), .second, .val (.long q4), .second, .val (.int p5), .val (.int pa), .unset, .unset, .unset, .unset, .unset, .unset, .unset, .unset, .unset, .unset, .unset, .unset, .unset, .unset, .unset] [])) (fun _ ks => XS.ifNo X0.here hx rfl (hb hby at_18) rfl ((if0 _ _).trans (feq c18_37).1) ks) ?_
      refine Dn.by (U' := s₁.setTop (mkF m 22 #[.val (.long q0), .second, .val (.long q1), .second, .val (.long q2), .second, .val (.long q3), .second, .val (.long q4), .second, .val (.int p5), .val (.int pa), .unset, .unset, .unset, .unset, .unset, .unset, .unset, .unset, .unset, .unset, .unset, .unset, .unset, .unset, .unset] [(.int (1 : Int32))])) (fun _ ks => XS.iconst X0.here hx rfl (hb hby at_21)  ks) ?_
      refine Dn.by (U' := s₁.setTop (mkF m 26 #[.val (.long q0), .second, .val (.long q1), .second, .val (.long q2), .second, .val (.long q3), .second, .val (.long q4), .second, .val (.int p5), .val (.int pa), .unset, .unset, .unset, .unset, .unset, .unset, .unset, .unset, .unset, .unset, .unset, .unset, .unset, .unset, .unset] [(.int (1 : Int32))])) (fun _ ks => XS.goto X0.here hx rfl (pc0 := 22) (pc' := 26) rfl (hb hby at_22) (by decide) (by decide) ks) ?_
      exact Jpb _
  by_cases c4_38 : (p5 &&& (1 : Int32)) = (0 : Int32)
  ·
    refine Dn.by (U' := s₁.setTop (mkF m 11 #[.val (.long q0), .second, .val (.long q1), .second, .val (.long q2), .second, .val (.long q3), .second, .val (.long q4), .second, .val (.int p5), .unset, .unset, .unset, .unset, .unset, .unset, .unset, .unset, .unset, .unset, .unset, .unset, .unset, .unset, .unset, .unset] [])) (fun _ ks => XS.ifYes X0.here hx rfl (pc0 := 4) (pc' := 11) rfl (hb hby at_4) rfl ((if0 _ _).trans (teq c4_38).1) (by decide) (by decide) ks) ?_
    refine Dn.by (U' := s₁.setTop (mkF m 12 #[.val (.long q0), .second, .val (.long q1), .second, .val (.long q2), .second, .val (.long q3), .second, .val (.long q4), .second, .val (.int p5), .unset, .unset, .unset, .unset, .unset, .unset, .unset, .unset, .unset, .unset, .unset, .unset, .unset, .unset, .unset, .unset] [(.int (0 : Int32))])) (fun _ ks => XS.iconst X0.here hx rfl (hb hby at_11)  ks) ?_
    exact Jpa _
  ·
    refine Dn.by (U' := s₁.setTop (mkF m 7 #[.val (.long q0), .second, .val (.long q1), .second, .val (.long q2), .second, .val (.long q3), .second, .val (.long q4), .second, .val (.int p5), .unset, .unset, .unset, .unset, .unset, .unset, .unset, .unset, .unset, .unset, .unset, .unset, .unset, .unset, .unset, .unset] [])) (fun _ ks => XS.ifNo X0.here hx rfl (hb hby at_4) rfl ((if0 _ _).trans (feq c4_38).1) ks) ?_
    refine Dn.by (U' := s₁.setTop (mkF m 8 #[.val (.long q0), .second, .val (.long q1), .second, .val (.long q2), .second, .val (.long q3), .second, .val (.long q4), .second, .val (.int p5), .unset, .unset, .unset, .unset, .unset, .unset, .unset, .unset, .unset, .unset, .unset, .unset, .unset, .unset, .unset, .unset] [(.int (1 : Int32))])) (fun _ ks => XS.iconst X0.here hx rfl (hb hby at_7)  ks) ?_
    refine Dn.by (U' := s₁.setTop (mkF m 12 #[.val (.long q0), .second, .val (.long q1), .second, .val (.long q2), .second, .val (.long q3), .second, .val (.long q4), .second, .val (.int p5), .unset, .unset, .unset, .unset, .unset, .unset, .unset, .unset, .unset, .unset, .unset, .unset, .unset, .unset, .unset, .unset] [(.int (1 : Int32))])) (fun _ ks => XS.goto X0.here hx rfl (pc0 := 8) (pc' := 12) rfl (hb hby at_8) (by decide) (by decide) ks) ?_
    exact Jpa _
set_option maxRecDepth 65536 in
set_option maxHeartbeats 40000000 in
theorem comes_1 {Post : Tables → Env → Array Value → State → Outcome → State → Prop} (hpost : ∀ tb e args s v u, (limb_1_1.after args s (.returned v) u = true ∧ limb_1_2.after args s (.returned v) u = true ∧ True) → FrameEnd s (.returned v) u (Jvm.fieldLocs frame_1_writes args s ++ Jvm.arrayLocs frame_1_arrays args s ++ Jvm.staticLocs frame_1_statics s) 16 128 → Post tb e args s (.returned v) u) :
    ArmFor flags0 classFile x code maxLocals ret World_1 tables_1 room_1 Calls_1 rest_1 Pre_1 Post := by
  intro l hfl _ _ p e ha hc hk s m args below hf hA hF happ hP
  obtain ⟨hcalls, hrest, hpre⟩ := hP
  obtain ⟨-, -, -, hnamed, -, -, -, hat⟩ := (Spec.applies_iff hf).mp happ
  obtain ⟨hg, hn⟩ := and_e (Cond.before_iff.mp (show (Jvm.Cond.and given_1 narrow_1).before args s = true from hpre))
  obtain ⟨gg1, gg2⟩ := and_e hg
  obtain ⟨gg3, gg4⟩ := and_e gg2
  obtain ⟨gg5, gg6⟩ := and_e gg4
  obtain ⟨gg7, gg8⟩ := and_e gg6
  obtain ⟨gg9, gg10⟩ := and_e gg8
  obtain ⟨gg11, gg12⟩ := and_e gg10
  obtain ⟨w0, w1, w2, w3, w4, w5, rfl⟩ : ∃ w0 w1 w2 w3 w4 w5 : Value, args = #[w0, w1, w2, w3, w4, w5] := by
    have hs : args.size = 6 := by simpa [Cond.value, given_1] using gg1
    obtain ⟨L⟩ := args
    match L, hs with
    | [w0, w1, w2, w3, w4, w5], _ => exact ⟨w0, w1, w2, w3, w4, w5, rfl⟩
  have hw := fun d (hd : d ∈ tables_1) => atoms_spec (ws := Jvm.Cond.code x code maxLocals ret :: tables_1) hat d (List.mem_cons_of_mem _ hd)
  have hfit : Fit s := fun {y c} hc i hi => by
    obtain ⟨ha, rfl⟩ := Array.getElem?_eq_some_iff.mp hc
    have q := List.all_eq_true.mp ((Array.all_eq_true_iff_forall_mem.mp hF) _ (Array.getElem_mem ha)) i (List.mem_range.mpr hi)
    simpa [Array.getElem?_eq_getElem hi] using q
  obtain ⟨hsets, hown0⟩ := atoms_of _ (rest_1_c_eq ▸ (show rest_1_c.before _ s = true from hrest))
  have hr0 := Cond.before_iff.mp hown0
  obtain ⟨i0, ei0⟩ := isL_v gg3
  obtain rfl : w0 = (.long i0) := Option.some.inj ei0
  obtain ⟨i1, ei1⟩ := isL_v gg5
  obtain rfl : w1 = (.long i1) := Option.some.inj ei1
  obtain ⟨i2, ei2⟩ := isL_v gg7
  obtain rfl : w2 = (.long i2) := Option.some.inj ei2
  obtain ⟨i3, ei3⟩ := isL_v gg9
  obtain rfl : w3 = (.long i3) := Option.some.inj ei3
  obtain ⟨i4, ei4⟩ := isL_v gg11
  obtain rfl : w4 = (.long i4) := Option.some.inj ei4
  obtain ⟨i5, ei5⟩ := is_v gg12
  obtain rfl : w5 = (.int i5) := Option.some.inj ei5
  obtain ⟨ca, ev⟩ := arr_v (Cond.before_iff.mp (hsets _ (List.mem_of_getElem? (i := 2) rfl)))
  have et : ∀ idx, (Jvm.Term.static "java/lang/Long$LongCache" "cache" "[Ljava/lang/Long;").eval #[.long i0, .long i1, .long i2, .long i3, .long i4, .int i5] s none idx s = some (.ref ca) := fun _ => ev
  obtain ⟨cc, Ar⟩ := Arr.start ev (Cond.before_iff.mp (hsets _ (List.mem_of_getElem? (i := 2) rfl)))
  have S_ca := Sta.start ev (Or.inl (hsets _ (List.mem_of_getElem? (i := 1) rfl)))
  have hca := Ar.fin (Vm.Alike.refl _)
  have ll := eqv_i (Term.int_eval (256)) (Cond.before_iff.mp (hsets _ (List.mem_of_getElem? (i := 4) rfl)))
  obtain ⟨b', cl', eb, ec, hsz, hv⟩ := Jvm.Lib.length_spec ll
  obtain rfl : ca = b' := Value.ref.inj (Option.some.inj (ev.symm.trans eb))
  obtain rfl : cc = cl' := Option.some.inj (hca.symm.trans ec)
  have hsz2 : cc.slots.size.toInt32 = 256 := (Value.int.inj hv).symm
  have BX := Bxs.start (val := fun j => Value.long ((j - (128 : Int32)).toInt64)) et Ar hsz hsz2 (by decide) (Cond.before_iff.mp (hsets _ (List.mem_of_getElem? (i := 5) rfl))) (fun X j nn q => eqv_l (i2l_at (own_subt nn)) q)
  obtain ⟨n, o, h1, h2, h3, _, L, rfl, ⟨rfl, N⟩, hq⟩ := rm0 l s _ hw tables_1 i0 i1 i2 i3 i4 i5 ca cc _ s.heap s.heap.size (Nat.le_refl _) (Old.start s) S_ca BX p e ha hc hk s m _ below hf ((Spec.applies_iff_loose hf).mp happ).1 ⟨rfl, State.Warmed39.refl s, rfl⟩ trivial
  refine ⟨n, _, h1, h2, h3, hpost _ _ _ _ _ _ ⟨Cond.after_iff.mpr rfl, Cond.after_iff.mpr (eq_i res_at (Term.int_eval (1)) rfl), trivial⟩ ⟨hq.1, hq.2.1, (hq.2.2.sift fun y hy => Or.inr (N y hy)).mono (by decide) (by decide)⟩⟩
theorem main_1_1 : Claimed_1_1 := comes_1 fun _ _ _ _ _ _ h hF => ⟨h.1, hF⟩
theorem main_1_2 : Claimed_1_2 := comes_1 fun _ _ _ _ _ _ h hF => ⟨h.2.1, hF⟩
end Jvm.Pilot.@@N@@
namespace Jvm.Pilot.@@N@@
open Jvm Jvm.ClassFile Sem Op Lib Jvm.Free Jvm.Stand Jvm.Pilot.@@N@@.Jvm.D
/-! MADE BY PROGRAM (witnessworld.py) out of the Statement's table words and the real class files: 16 classes; the members and pool entries that the words name. The judged class is class 1, her method 1. -/
namespace start1
open Jvm.ClassFile
def u (s : String) : CpInfo := .utf8 (stringToUtf16 s)
/-- a pool by its gaps: so many unusable entries, then the entry; so many at the end -/
def gap : Nat → List CpInfo → List CpInfo
  | 0, r => r
  | n + 1, r => .unusable :: gap n r
def poolList (es : List (Nat × CpInfo)) (last : Nat) : List CpInfo := es.foldr (fun e r => gap e.1 (e.2 :: r)) (gap last [])
def pool (es : List (Nat × CpInfo)) (last : Nat) : Array CpInfo := ⟨poolList es last⟩
def fileOf (pool : Array CpInfo) (this : Nat) (attrs : Array Attribute := #[]) (ms : Array MethodInfo := #[]) (fl : Nat := 33) (sup : Nat := 0) (ifs : Array Nat := #[]) (fds : Array FieldInfo := #[]) : ClassFile where
  minorVersion := 0
  majorVersion := 65
  constantPool := pool
  accessFlags := fl
  thisClass := this
  superClass := sup
  interfaces := ifs
  fields := fds
  methods := ms
  attributes := attrs
def plain (name : String) (sup : Option ClassId) : Class where
  name := name
  kind := .ordinary
  loader := none
  accessFlags := 33
  super := sup
  interfaces := #[]
  cf := none
  fields := #[]
  methods := #[]
  instanceTypes := #[]
  staticTypes := #[]
  resolved := #[]
  callSites := []
  init := .initialized
  statics := none
  mirror := none

def pool0 : Array CpInfo := pool [(5, u "<init>"), (0, u "()V"), (1, .class_ 10), (1, u "java/lang/Object")] 113

def k0c0 : Code := { maxStack := 0, maxLocals := 1, code := object_method_1_code, exceptionTable := #[], attributes := #[] }
def k0m0 : Method := { name := "<init>", desc := "()V", sig := { parameters := [], returnType := none }, accessFlags := 1, code := some k0c0 }
/-- java/lang/Object -/
def k0 : Class := { plain "java/lang/Object" none with
  accessFlags := 33
  interfaces := #[]
  cf := some (fileOf pool0 8 #[] #[{ accessFlags := 1, nameIndex := 5, descriptorIndex := 6, attributes := #[] }] 33 0 #[] #[])
  fields := #[]
  methods := #[k0m0]
  instanceTypes := #[]
  staticTypes := #[]
  resolved := Array.replicate 124 none
  statics := none }

def pool1 : Array CpInfo := pool [(2, .class_ 4), (1, u "java/lang/Object"), (0, u "<init>"), (0, u "()V"), (0, .class_ 8), (0, u "com/example/weaverbird/weaverbird/model/RetryCounts"), (0, .methodref 7 10), (0, .nameAndType 5 11), (0, u "(JJJJ)V"), (0, .methodref 7 13), (0, .nameAndType 14 15), (0, u "equals"), (0, u "(Ljava/lang/Object;)Z"), (0, .methodref 17 18), (0, .class_ 19), (0, .nameAndType 20 21), (0, u "java/lang/Long"), (0, u "valueOf"), (0, u "(J)Ljava/lang/Long;"), (0, .class_ 23), (0, u "com/example/weaverbird/weaverbird/model/RetryCountsEqualsPinLaw"), (2, u "law"), (0, u "(JJJJJI)Z")] 3

def k1m0 : Method := { name := "<init>", desc := "()V", sig := { parameters := [], returnType := none }, accessFlags := 1, code := none }
def k1c1 : Code := { maxStack := 10, maxLocals := 27, code := code, exceptionTable := #[], attributes := #[] }
def k1m1 : Method := { name := "law", desc := "(JJJJJI)Z", sig := { parameters := [.long, .long, .long, .long, .long, .int], returnType := some .boolean }, accessFlags := 9, code := some k1c1 }
/-- com/example/weaverbird/weaverbird/model/RetryCountsEqualsPinLaw -/
def k1 : Class := { plain "com/example/weaverbird/weaverbird/model/RetryCountsEqualsPinLaw" (some 0) with
  accessFlags := 49
  interfaces := #[]
  cf := some (fileOf pool1 22 #[] #[{ accessFlags := 1, nameIndex := 5, descriptorIndex := 6, attributes := #[] }, { accessFlags := 9, nameIndex := 26, descriptorIndex := 27, attributes := #[] }] 49 2 #[] #[])
  fields := #[]
  methods := #[k1m0, k1m1]
  instanceTypes := #[]
  staticTypes := #[]
  resolved := Array.replicate 31 none
  statics := none }

def pool2 : Array CpInfo := pool [(1, .methodref 2 3), (0, .class_ 4), (0, .nameAndType 5 6), (0, u "java/lang/Object"), (0, u "<init>"), (0, u "()V"), (0, .fieldref 8 9), (0, .class_ 10), (0, .nameAndType 11 12), (0, u "com/example/weaverbird/weaverbird/model/RetryCounts"), (0, u "retries"), (0, u "J"), (0, .fieldref 8 14), (0, .nameAndType 15 12), (0, u "successes"), (0, .fieldref 8 17), (0, .nameAndType 18 12), (0, u "exhausted"), (0, .fieldref 8 20), (0, .nameAndType 21 12), (0, u "permanent"), (2, u "(JJJJ)V"), (18, u "NONE"), (0, u "Lcom/example/weaverbird/weaverbird/model/RetryCounts;"), (5, u "equals"), (0, u "(Ljava/lang/Object;)Z")] 23

def k2c0 : Code := { maxStack := 3, maxLocals := 9, code := prog_9_method_1_code, exceptionTable := #[], attributes := #[] }
def k2m0 : Method := { name := "<init>", desc := "(JJJJ)V", sig := { parameters := [.long, .long, .long, .long], returnType := none }, accessFlags := 1, code := some k2c0 }
def k2c1 : Code := { maxStack := 4, maxLocals := 3, code := prog_9_method_7_code, exceptionTable := #[], attributes := #[] }
def k2m1 : Method := { name := "equals", desc := "(Ljava/lang/Object;)Z", sig := { parameters := [(.object "java/lang/Object")], returnType := some .boolean }, accessFlags := 1, code := some k2c1 }
/-- com/example/weaverbird/weaverbird/model/RetryCounts -/
def k2 : Class := { plain "com/example/weaverbird/weaverbird/model/RetryCounts" (some 0) with
  accessFlags := 33
  interfaces := #[]
  cf := some (fileOf pool2 8 #[] #[{ accessFlags := 1, nameIndex := 5, descriptorIndex := 24, attributes := #[] }, { accessFlags := 1, nameIndex := 50, descriptorIndex := 51, attributes := #[] }] 33 2 #[] #[{ accessFlags := 25, nameIndex := 43, descriptorIndex := 44, attributes := #[] }, { accessFlags := 18, nameIndex := 11, descriptorIndex := 12, attributes := #[] }, { accessFlags := 18, nameIndex := 15, descriptorIndex := 12, attributes := #[] }, { accessFlags := 18, nameIndex := 18, descriptorIndex := 12, attributes := #[] }, { accessFlags := 18, nameIndex := 21, descriptorIndex := 12, attributes := #[] }])
  fields := #[{ name := "NONE", type := (.object "com/example/weaverbird/weaverbird/model/RetryCounts"), accessFlags := 25, slot := 0, constantValue := 0 }, { name := "retries", type := .long, accessFlags := 18, slot := 0, constantValue := 0 }, { name := "successes", type := .long, accessFlags := 18, slot := 1, constantValue := 0 }, { name := "exhausted", type := .long, accessFlags := 18, slot := 2, constantValue := 0 }, { name := "permanent", type := .long, accessFlags := 18, slot := 3, constantValue := 0 }]
  methods := #[k2m0, k2m1]
  instanceTypes := #[.long, .long, .long, .long]
  staticTypes := #[(.object "com/example/weaverbird/weaverbird/model/RetryCounts")]
  resolved := Array.replicate 75 none
  statics := none }

def pool3 : Array CpInfo := pool [(1, .class_ 2), (0, u "java/io/Serializable"), (0, .class_ 4), (0, u "java/lang/Object")] 2

/-- java/io/Serializable -/
def k3 : Class := { plain "java/io/Serializable" (some 0) with
  accessFlags := 1537
  interfaces := #[]
  cf := some (fileOf pool3 1 #[] #[] 1537 3 #[] #[])
  fields := #[]
  methods := #[]
  instanceTypes := #[]
  staticTypes := #[]
  resolved := Array.replicate 7 none
  statics := none }

def pool4 : Array CpInfo := pool [(1, .methodref 2 3), (0, .class_ 4), (0, .nameAndType 5 6), (0, u "java/lang/Object"), (0, u "<init>"), (0, u "()V"), (1, .class_ 10), (1, u "java/lang/Number"), (2, .class_ 14), (0, u "java/io/Serializable"), (0, u "serialVersionUID"), (0, u "J")] 20

def k4c0 : Code := { maxStack := 1, maxLocals := 1, code := jdk_18_method_1_code, exceptionTable := #[], attributes := #[] }
def k4m0 : Method := { name := "<init>", desc := "()V", sig := { parameters := [], returnType := none }, accessFlags := 1, code := some k4c0 }
/-- java/lang/Number -/
def k4 : Class := { plain "java/lang/Number" (some 0) with
  accessFlags := 1057
  interfaces := #[3]
  cf := some (fileOf pool4 8 #[] #[{ accessFlags := 1, nameIndex := 5, descriptorIndex := 6, attributes := #[] }] 1057 2 #[13] #[{ accessFlags := 26, nameIndex := 15, descriptorIndex := 16, attributes := #[] }])
  fields := #[{ name := "serialVersionUID", type := .long, accessFlags := 26, slot := 0, constantValue := 0 }]
  methods := #[k4m0]
  instanceTypes := #[]
  staticTypes := #[.long]
  resolved := Array.replicate 37 none
  statics := none }

def pool5 : Array CpInfo := pool [(1, .class_ 2), (0, u "java/lang/Comparable"), (0, .class_ 4), (0, u "java/lang/Object")] 7

/-- java/lang/Comparable -/
def k5 : Class := { plain "java/lang/Comparable" (some 0) with
  accessFlags := 1537
  interfaces := #[]
  cf := some (fileOf pool5 1 #[] #[] 1537 3 #[] #[])
  fields := #[]
  methods := #[]
  instanceTypes := #[]
  staticTypes := #[]
  resolved := Array.replicate 12 none
  statics := none }

def pool6 : Array CpInfo := pool [(1, .class_ 2), (0, u "java/lang/constant/Constable"), (0, .class_ 4), (0, u "java/lang/Object")] 6

/-- java/lang/constant/Constable -/
def k6 : Class := { plain "java/lang/constant/Constable" (some 0) with
  accessFlags := 1537
  interfaces := #[]
  cf := some (fileOf pool6 1 #[] #[] 1537 3 #[] #[])
  fields := #[]
  methods := #[]
  instanceTypes := #[]
  staticTypes := #[]
  resolved := Array.replicate 11 none
  statics := none }

def pool7 : Array CpInfo := pool [(1, .class_ 2), (0, u "java/lang/constant/ConstantDesc"), (0, .class_ 4), (0, u "java/lang/Object")] 32

/-- java/lang/constant/ConstantDesc -/
def k7 : Class := { plain "java/lang/constant/ConstantDesc" (some 0) with
  accessFlags := 1537
  interfaces := #[]
  cf := some (fileOf pool7 1 #[] #[] 1537 3 #[] #[])
  fields := #[]
  methods := #[]
  instanceTypes := #[]
  staticTypes := #[]
  resolved := Array.replicate 37 none
  statics := none }

def pool8 : Array CpInfo := pool [(1, .class_ 2), (0, u "java/lang/Long"), (55, .nameAndType 59 60), (0, u "<init>"), (0, u "()V"), (24, u "valueOf"), (143, u "(J)Ljava/lang/Long;"), (0, .long 18446744073709551488), (1, .long 127), (1, .fieldref 235 236), (0, .class_ 237), (0, .nameAndType 238 239), (0, u "java/lang/Long$LongCache"), (0, u "cache"), (0, u "[Ljava/lang/Long;"), (0, .methodref 1 241), (0, .nameAndType 59 242), (0, u "(J)V"), (27, .methodref 271 58), (0, .class_ 272), (0, u "java/lang/Number"), (0, .fieldref 1 274), (0, .nameAndType 275 276), (0, u "value"), (0, u "J"), (84, u "TYPE"), (0, u "Ljava/lang/Class;"), (0, .class_ 364), (0, u "java/lang/Comparable"), (0, .class_ 366), (0, u "java/lang/constant/Constable"), (0, .class_ 368), (0, u "java/lang/constant/ConstantDesc"), (0, u "MIN_VALUE"), (1, u "MAX_VALUE"), (4, u "SIZE"), (0, u "I"), (1, u "BYTES"), (1, u "serialVersionUID")] 142

def k8c0 : Code := { maxStack := 4, maxLocals := 3, code := jdk_35_method_24_code, exceptionTable := #[], attributes := #[] }
def k8m0 : Method := { name := "valueOf", desc := "(J)Ljava/lang/Long;", sig := { parameters := [.long], returnType := some (.object "java/lang/Long") }, accessFlags := 9, code := some k8c0 }
def k8c1 : Code := { maxStack := 3, maxLocals := 3, code := jdk_35_method_26_code, exceptionTable := #[], attributes := #[] }
def k8m1 : Method := { name := "<init>", desc := "(J)V", sig := { parameters := [.long], returnType := none }, accessFlags := 1, code := some k8c1 }
/-- java/lang/Long -/
def k8 : Class := { plain "java/lang/Long" (some 4) with
  accessFlags := 49
  interfaces := #[5, 6, 7]
  cf := some (fileOf pool8 1 #[.nestMembers #[235]] #[{ accessFlags := 9, nameIndex := 85, descriptorIndex := 229, attributes := #[] }, { accessFlags := 1, nameIndex := 59, descriptorIndex := 242, attributes := #[] }] 49 271 #[363, 365, 367] #[{ accessFlags := 25, nameIndex := 369, descriptorIndex := 276, attributes := #[] }, { accessFlags := 25, nameIndex := 371, descriptorIndex := 276, attributes := #[] }, { accessFlags := 25, nameIndex := 361, descriptorIndex := 362, attributes := #[] }, { accessFlags := 18, nameIndex := 275, descriptorIndex := 276, attributes := #[] }, { accessFlags := 25, nameIndex := 376, descriptorIndex := 377, attributes := #[] }, { accessFlags := 25, nameIndex := 379, descriptorIndex := 377, attributes := #[] }, { accessFlags := 26, nameIndex := 381, descriptorIndex := 276, attributes := #[] }])
  fields := #[{ name := "MIN_VALUE", type := .long, accessFlags := 25, slot := 0, constantValue := 0 }, { name := "MAX_VALUE", type := .long, accessFlags := 25, slot := 1, constantValue := 0 }, { name := "TYPE", type := (.object "java/lang/Class"), accessFlags := 25, slot := 2, constantValue := 0 }, { name := "value", type := .long, accessFlags := 18, slot := 0, constantValue := 0 }, { name := "SIZE", type := .int, accessFlags := 25, slot := 3, constantValue := 0 }, { name := "BYTES", type := .int, accessFlags := 25, slot := 4, constantValue := 0 }, { name := "serialVersionUID", type := .long, accessFlags := 26, slot := 5, constantValue := 0 }]
  methods := #[k8m0, k8m1]
  instanceTypes := #[.long]
  staticTypes := #[.long, .long, (.object "java/lang/Class"), .int, .int, .long]
  resolved := Array.replicate 524 none
  statics := none }

def pool9 : Array CpInfo := pool [(2, .class_ 4), (1, u "java/lang/Object"), (0, u "<init>"), (0, u "()V"), (0, .class_ 8), (0, u "java/lang/Long"), (7, .class_ 18), (1, u "java/lang/Long$LongCache"), (0, u "$assertionsDisabled"), (0, u "Z"), (8, u "archivedCache"), (0, u "[Ljava/lang/Long;"), (7, u "cache")] 24

def k9m0 : Method := { name := "<init>", desc := "()V", sig := { parameters := [], returnType := none }, accessFlags := 2, code := none }
/-- java/lang/Long$LongCache -/
def k9 : Class := { plain "java/lang/Long$LongCache" (some 0) with
  accessFlags := 48
  interfaces := #[]
  cf := some (fileOf pool9 16 #[.nestHost 7] #[{ accessFlags := 2, nameIndex := 5, descriptorIndex := 6, attributes := #[] }] 48 2 #[] #[{ accessFlags := 24, nameIndex := 38, descriptorIndex := 30, attributes := #[] }, { accessFlags := 8, nameIndex := 29, descriptorIndex := 30, attributes := #[] }, { accessFlags := 4120, nameIndex := 19, descriptorIndex := 20, attributes := #[] }])
  fields := #[{ name := "cache", type := (.array (.object "java/lang/Long")), accessFlags := 24, slot := 0, constantValue := 0 }, { name := "archivedCache", type := (.array (.object "java/lang/Long")), accessFlags := 8, slot := 1, constantValue := 0 }, { name := "$assertionsDisabled", type := .boolean, accessFlags := 4120, slot := 2, constantValue := 0 }]
  methods := #[k9m0]
  instanceTypes := #[]
  staticTypes := #[(.array (.object "java/lang/Long")), (.array (.object "java/lang/Long")), .boolean]
  resolved := Array.replicate 63 none
  statics := some 0 }

def pool10 : Array CpInfo := pool [(1, u "java/lang/Cloneable"), (0, .class_ 1), (0, u "java/lang/Object"), (0, .class_ 3)] 3

/-- java/lang/Cloneable -/
def k10 : Class := { plain "java/lang/Cloneable" (some 0) with
  accessFlags := 1537
  interfaces := #[]
  cf := some (fileOf pool10 2 #[] #[] 1537 4 #[] #[])
  fields := #[]
  methods := #[]
  instanceTypes := #[]
  staticTypes := #[]
  resolved := Array.replicate 8 none
  statics := none }

/-- the primitive byte -/
def k11 : Class := { plain "byte" none with kind := .primitive 'B', accessFlags := 0x411 }
/-- [B -/
def k12 : Class := { plain "[B" (some 0) with kind := .array 11 .byte, interfaces := #[10, 3], accessFlags := 1041 }

/-- the primitive int -/
def k13 : Class := { plain "int" none with kind := .primitive 'I', accessFlags := 0x411 }
/-- [I -/
def k14 : Class := { plain "[I" (some 0) with kind := .array 13 .int, interfaces := #[10, 3], accessFlags := 1041 }

/-- [Ljava/lang/Long; -/
def k15 : Class := { plain "[Ljava/lang/Long;" (some 0) with kind := .array 8 (.object "java/lang/Long"), interfaces := #[10, 3], accessFlags := 1041 }

def heap : Heap := #[{ cls := 9, slots := #[.ref 1, .null, .int 0], vm := .statics 9 },
  { cls := 15, slots := #[.ref 2, .ref 3, .ref 4, .ref 5, .ref 6, .ref 7, .ref 8, .ref 9, .ref 10, .ref 11, .ref 12, .ref 13, .ref 14, .ref 15, .ref 16, .ref 17, .ref 18, .ref 19, .ref 20, .ref 21, .ref 22, .ref 23, .ref 24, .ref 25, .ref 26, .ref 27, .ref 28, .ref 29, .ref 30, .ref 31, .ref 32, .ref 33, .ref 34, .ref 35, .ref 36, .ref 37, .ref 38, .ref 39, .ref 40, .ref 41, .ref 42, .ref 43, .ref 44, .ref 45, .ref 46, .ref 47, .ref 48, .ref 49, .ref 50, .ref 51, .ref 52, .ref 53, .ref 54, .ref 55, .ref 56, .ref 57, .ref 58, .ref 59, .ref 60, .ref 61, .ref 62, .ref 63, .ref 64, .ref 65, .ref 66, .ref 67, .ref 68, .ref 69, .ref 70, .ref 71, .ref 72, .ref 73, .ref 74, .ref 75, .ref 76, .ref 77, .ref 78, .ref 79, .ref 80, .ref 81, .ref 82, .ref 83, .ref 84, .ref 85, .ref 86, .ref 87, .ref 88, .ref 89, .ref 90, .ref 91, .ref 92, .ref 93, .ref 94, .ref 95, .ref 96, .ref 97, .ref 98, .ref 99, .ref 100, .ref 101, .ref 102, .ref 103, .ref 104, .ref 105, .ref 106, .ref 107, .ref 108, .ref 109, .ref 110, .ref 111, .ref 112, .ref 113, .ref 114, .ref 115, .ref 116, .ref 117, .ref 118, .ref 119, .ref 120, .ref 121, .ref 122, .ref 123, .ref 124, .ref 125, .ref 126, .ref 127, .ref 128, .ref 129, .ref 130, .ref 131, .ref 132, .ref 133, .ref 134, .ref 135, .ref 136, .ref 137, .ref 138, .ref 139, .ref 140, .ref 141, .ref 142, .ref 143, .ref 144, .ref 145, .ref 146, .ref 147, .ref 148, .ref 149, .ref 150, .ref 151, .ref 152, .ref 153, .ref 154, .ref 155, .ref 156, .ref 157, .ref 158, .ref 159, .ref 160, .ref 161, .ref 162, .ref 163, .ref 164, .ref 165, .ref 166, .ref 167, .ref 168, .ref 169, .ref 170, .ref 171, .ref 172, .ref 173, .ref 174, .ref 175, .ref 176, .ref 177, .ref 178, .ref 179, .ref 180, .ref 181, .ref 182, .ref 183, .ref 184, .ref 185, .ref 186, .ref 187, .ref 188, .ref 189, .ref 190, .ref 191, .ref 192, .ref 193, .ref 194, .ref 195, .ref 196, .ref 197, .ref 198, .ref 199, .ref 200, .ref 201, .ref 202, .ref 203, .ref 204, .ref 205, .ref 206, .ref 207, .ref 208, .ref 209, .ref 210, .ref 211, .ref 212, .ref 213, .ref 214, .ref 215, .ref 216, .ref 217, .ref 218, .ref 219, .ref 220, .ref 221, .ref 222, .ref 223, .ref 224, .ref 225, .ref 226, .ref 227, .ref 228, .ref 229, .ref 230, .ref 231, .ref 232, .ref 233, .ref 234, .ref 235, .ref 236, .ref 237, .ref 238, .ref 239, .ref 240, .ref 241, .ref 242, .ref 243, .ref 244, .ref 245, .ref 246, .ref 247, .ref 248, .ref 249, .ref 250, .ref 251, .ref 252, .ref 253, .ref 254, .ref 255, .ref 256, .ref 257], vm := .none },
  { cls := 8, slots := #[.long (-128)], vm := .none },
  { cls := 8, slots := #[.long (-127)], vm := .none },
  { cls := 8, slots := #[.long (-126)], vm := .none },
  { cls := 8, slots := #[.long (-125)], vm := .none },
  { cls := 8, slots := #[.long (-124)], vm := .none },
  { cls := 8, slots := #[.long (-123)], vm := .none },
  { cls := 8, slots := #[.long (-122)], vm := .none },
  { cls := 8, slots := #[.long (-121)], vm := .none },
  { cls := 8, slots := #[.long (-120)], vm := .none },
  { cls := 8, slots := #[.long (-119)], vm := .none },
  { cls := 8, slots := #[.long (-118)], vm := .none },
  { cls := 8, slots := #[.long (-117)], vm := .none },
  { cls := 8, slots := #[.long (-116)], vm := .none },
  { cls := 8, slots := #[.long (-115)], vm := .none },
  { cls := 8, slots := #[.long (-114)], vm := .none },
  { cls := 8, slots := #[.long (-113)], vm := .none },
  { cls := 8, slots := #[.long (-112)], vm := .none },
  { cls := 8, slots := #[.long (-111)], vm := .none },
  { cls := 8, slots := #[.long (-110)], vm := .none },
  { cls := 8, slots := #[.long (-109)], vm := .none },
  { cls := 8, slots := #[.long (-108)], vm := .none },
  { cls := 8, slots := #[.long (-107)], vm := .none },
  { cls := 8, slots := #[.long (-106)], vm := .none },
  { cls := 8, slots := #[.long (-105)], vm := .none },
  { cls := 8, slots := #[.long (-104)], vm := .none },
  { cls := 8, slots := #[.long (-103)], vm := .none },
  { cls := 8, slots := #[.long (-102)], vm := .none },
  { cls := 8, slots := #[.long (-101)], vm := .none },
  { cls := 8, slots := #[.long (-100)], vm := .none },
  { cls := 8, slots := #[.long (-99)], vm := .none },
  { cls := 8, slots := #[.long (-98)], vm := .none },
  { cls := 8, slots := #[.long (-97)], vm := .none },
  { cls := 8, slots := #[.long (-96)], vm := .none },
  { cls := 8, slots := #[.long (-95)], vm := .none },
  { cls := 8, slots := #[.long (-94)], vm := .none },
  { cls := 8, slots := #[.long (-93)], vm := .none },
  { cls := 8, slots := #[.long (-92)], vm := .none },
  { cls := 8, slots := #[.long (-91)], vm := .none },
  { cls := 8, slots := #[.long (-90)], vm := .none },
  { cls := 8, slots := #[.long (-89)], vm := .none },
  { cls := 8, slots := #[.long (-88)], vm := .none },
  { cls := 8, slots := #[.long (-87)], vm := .none },
  { cls := 8, slots := #[.long (-86)], vm := .none },
  { cls := 8, slots := #[.long (-85)], vm := .none },
  { cls := 8, slots := #[.long (-84)], vm := .none },
  { cls := 8, slots := #[.long (-83)], vm := .none },
  { cls := 8, slots := #[.long (-82)], vm := .none },
  { cls := 8, slots := #[.long (-81)], vm := .none },
  { cls := 8, slots := #[.long (-80)], vm := .none },
  { cls := 8, slots := #[.long (-79)], vm := .none },
  { cls := 8, slots := #[.long (-78)], vm := .none },
  { cls := 8, slots := #[.long (-77)], vm := .none },
  { cls := 8, slots := #[.long (-76)], vm := .none },
  { cls := 8, slots := #[.long (-75)], vm := .none },
  { cls := 8, slots := #[.long (-74)], vm := .none },
  { cls := 8, slots := #[.long (-73)], vm := .none },
  { cls := 8, slots := #[.long (-72)], vm := .none },
  { cls := 8, slots := #[.long (-71)], vm := .none },
  { cls := 8, slots := #[.long (-70)], vm := .none },
  { cls := 8, slots := #[.long (-69)], vm := .none },
  { cls := 8, slots := #[.long (-68)], vm := .none },
  { cls := 8, slots := #[.long (-67)], vm := .none },
  { cls := 8, slots := #[.long (-66)], vm := .none },
  { cls := 8, slots := #[.long (-65)], vm := .none },
  { cls := 8, slots := #[.long (-64)], vm := .none },
  { cls := 8, slots := #[.long (-63)], vm := .none },
  { cls := 8, slots := #[.long (-62)], vm := .none },
  { cls := 8, slots := #[.long (-61)], vm := .none },
  { cls := 8, slots := #[.long (-60)], vm := .none },
  { cls := 8, slots := #[.long (-59)], vm := .none },
  { cls := 8, slots := #[.long (-58)], vm := .none },
  { cls := 8, slots := #[.long (-57)], vm := .none },
  { cls := 8, slots := #[.long (-56)], vm := .none },
  { cls := 8, slots := #[.long (-55)], vm := .none },
  { cls := 8, slots := #[.long (-54)], vm := .none },
  { cls := 8, slots := #[.long (-53)], vm := .none },
  { cls := 8, slots := #[.long (-52)], vm := .none },
  { cls := 8, slots := #[.long (-51)], vm := .none },
  { cls := 8, slots := #[.long (-50)], vm := .none },
  { cls := 8, slots := #[.long (-49)], vm := .none },
  { cls := 8, slots := #[.long (-48)], vm := .none },
  { cls := 8, slots := #[.long (-47)], vm := .none },
  { cls := 8, slots := #[.long (-46)], vm := .none },
  { cls := 8, slots := #[.long (-45)], vm := .none },
  { cls := 8, slots := #[.long (-44)], vm := .none },
  { cls := 8, slots := #[.long (-43)], vm := .none },
  { cls := 8, slots := #[.long (-42)], vm := .none },
  { cls := 8, slots := #[.long (-41)], vm := .none },
  { cls := 8, slots := #[.long (-40)], vm := .none },
  { cls := 8, slots := #[.long (-39)], vm := .none },
  { cls := 8, slots := #[.long (-38)], vm := .none },
  { cls := 8, slots := #[.long (-37)], vm := .none },
  { cls := 8, slots := #[.long (-36)], vm := .none },
  { cls := 8, slots := #[.long (-35)], vm := .none },
  { cls := 8, slots := #[.long (-34)], vm := .none },
  { cls := 8, slots := #[.long (-33)], vm := .none },
  { cls := 8, slots := #[.long (-32)], vm := .none },
  { cls := 8, slots := #[.long (-31)], vm := .none },
  { cls := 8, slots := #[.long (-30)], vm := .none },
  { cls := 8, slots := #[.long (-29)], vm := .none },
  { cls := 8, slots := #[.long (-28)], vm := .none },
  { cls := 8, slots := #[.long (-27)], vm := .none },
  { cls := 8, slots := #[.long (-26)], vm := .none },
  { cls := 8, slots := #[.long (-25)], vm := .none },
  { cls := 8, slots := #[.long (-24)], vm := .none },
  { cls := 8, slots := #[.long (-23)], vm := .none },
  { cls := 8, slots := #[.long (-22)], vm := .none },
  { cls := 8, slots := #[.long (-21)], vm := .none },
  { cls := 8, slots := #[.long (-20)], vm := .none },
  { cls := 8, slots := #[.long (-19)], vm := .none },
  { cls := 8, slots := #[.long (-18)], vm := .none },
  { cls := 8, slots := #[.long (-17)], vm := .none },
  { cls := 8, slots := #[.long (-16)], vm := .none },
  { cls := 8, slots := #[.long (-15)], vm := .none },
  { cls := 8, slots := #[.long (-14)], vm := .none },
  { cls := 8, slots := #[.long (-13)], vm := .none },
  { cls := 8, slots := #[.long (-12)], vm := .none },
  { cls := 8, slots := #[.long (-11)], vm := .none },
  { cls := 8, slots := #[.long (-10)], vm := .none },
  { cls := 8, slots := #[.long (-9)], vm := .none },
  { cls := 8, slots := #[.long (-8)], vm := .none },
  { cls := 8, slots := #[.long (-7)], vm := .none },
  { cls := 8, slots := #[.long (-6)], vm := .none },
  { cls := 8, slots := #[.long (-5)], vm := .none },
  { cls := 8, slots := #[.long (-4)], vm := .none },
  { cls := 8, slots := #[.long (-3)], vm := .none },
  { cls := 8, slots := #[.long (-2)], vm := .none },
  { cls := 8, slots := #[.long (-1)], vm := .none },
  { cls := 8, slots := #[.long (0)], vm := .none },
  { cls := 8, slots := #[.long (1)], vm := .none },
  { cls := 8, slots := #[.long (2)], vm := .none },
  { cls := 8, slots := #[.long (3)], vm := .none },
  { cls := 8, slots := #[.long (4)], vm := .none },
  { cls := 8, slots := #[.long (5)], vm := .none },
  { cls := 8, slots := #[.long (6)], vm := .none },
  { cls := 8, slots := #[.long (7)], vm := .none },
  { cls := 8, slots := #[.long (8)], vm := .none },
  { cls := 8, slots := #[.long (9)], vm := .none },
  { cls := 8, slots := #[.long (10)], vm := .none },
  { cls := 8, slots := #[.long (11)], vm := .none },
  { cls := 8, slots := #[.long (12)], vm := .none },
  { cls := 8, slots := #[.long (13)], vm := .none },
  { cls := 8, slots := #[.long (14)], vm := .none },
  { cls := 8, slots := #[.long (15)], vm := .none },
  { cls := 8, slots := #[.long (16)], vm := .none },
  { cls := 8, slots := #[.long (17)], vm := .none },
  { cls := 8, slots := #[.long (18)], vm := .none },
  { cls := 8, slots := #[.long (19)], vm := .none },
  { cls := 8, slots := #[.long (20)], vm := .none },
  { cls := 8, slots := #[.long (21)], vm := .none },
  { cls := 8, slots := #[.long (22)], vm := .none },
  { cls := 8, slots := #[.long (23)], vm := .none },
  { cls := 8, slots := #[.long (24)], vm := .none },
  { cls := 8, slots := #[.long (25)], vm := .none },
  { cls := 8, slots := #[.long (26)], vm := .none },
  { cls := 8, slots := #[.long (27)], vm := .none },
  { cls := 8, slots := #[.long (28)], vm := .none },
  { cls := 8, slots := #[.long (29)], vm := .none },
  { cls := 8, slots := #[.long (30)], vm := .none },
  { cls := 8, slots := #[.long (31)], vm := .none },
  { cls := 8, slots := #[.long (32)], vm := .none },
  { cls := 8, slots := #[.long (33)], vm := .none },
  { cls := 8, slots := #[.long (34)], vm := .none },
  { cls := 8, slots := #[.long (35)], vm := .none },
  { cls := 8, slots := #[.long (36)], vm := .none },
  { cls := 8, slots := #[.long (37)], vm := .none },
  { cls := 8, slots := #[.long (38)], vm := .none },
  { cls := 8, slots := #[.long (39)], vm := .none },
  { cls := 8, slots := #[.long (40)], vm := .none },
  { cls := 8, slots := #[.long (41)], vm := .none },
  { cls := 8, slots := #[.long (42)], vm := .none },
  { cls := 8, slots := #[.long (43)], vm := .none },
  { cls := 8, slots := #[.long (44)], vm := .none },
  { cls := 8, slots := #[.long (45)], vm := .none },
  { cls := 8, slots := #[.long (46)], vm := .none },
  { cls := 8, slots := #[.long (47)], vm := .none },
  { cls := 8, slots := #[.long (48)], vm := .none },
  { cls := 8, slots := #[.long (49)], vm := .none },
  { cls := 8, slots := #[.long (50)], vm := .none },
  { cls := 8, slots := #[.long (51)], vm := .none },
  { cls := 8, slots := #[.long (52)], vm := .none },
  { cls := 8, slots := #[.long (53)], vm := .none },
  { cls := 8, slots := #[.long (54)], vm := .none },
  { cls := 8, slots := #[.long (55)], vm := .none },
  { cls := 8, slots := #[.long (56)], vm := .none },
  { cls := 8, slots := #[.long (57)], vm := .none },
  { cls := 8, slots := #[.long (58)], vm := .none },
  { cls := 8, slots := #[.long (59)], vm := .none },
  { cls := 8, slots := #[.long (60)], vm := .none },
  { cls := 8, slots := #[.long (61)], vm := .none },
  { cls := 8, slots := #[.long (62)], vm := .none },
  { cls := 8, slots := #[.long (63)], vm := .none },
  { cls := 8, slots := #[.long (64)], vm := .none },
  { cls := 8, slots := #[.long (65)], vm := .none },
  { cls := 8, slots := #[.long (66)], vm := .none },
  { cls := 8, slots := #[.long (67)], vm := .none },
  { cls := 8, slots := #[.long (68)], vm := .none },
  { cls := 8, slots := #[.long (69)], vm := .none },
  { cls := 8, slots := #[.long (70)], vm := .none },
  { cls := 8, slots := #[.long (71)], vm := .none },
  { cls := 8, slots := #[.long (72)], vm := .none },
  { cls := 8, slots := #[.long (73)], vm := .none },
  { cls := 8, slots := #[.long (74)], vm := .none },
  { cls := 8, slots := #[.long (75)], vm := .none },
  { cls := 8, slots := #[.long (76)], vm := .none },
  { cls := 8, slots := #[.long (77)], vm := .none },
  { cls := 8, slots := #[.long (78)], vm := .none },
  { cls := 8, slots := #[.long (79)], vm := .none },
  { cls := 8, slots := #[.long (80)], vm := .none },
  { cls := 8, slots := #[.long (81)], vm := .none },
  { cls := 8, slots := #[.long (82)], vm := .none },
  { cls := 8, slots := #[.long (83)], vm := .none },
  { cls := 8, slots := #[.long (84)], vm := .none },
  { cls := 8, slots := #[.long (85)], vm := .none },
  { cls := 8, slots := #[.long (86)], vm := .none },
  { cls := 8, slots := #[.long (87)], vm := .none },
  { cls := 8, slots := #[.long (88)], vm := .none },
  { cls := 8, slots := #[.long (89)], vm := .none },
  { cls := 8, slots := #[.long (90)], vm := .none },
  { cls := 8, slots := #[.long (91)], vm := .none },
  { cls := 8, slots := #[.long (92)], vm := .none },
  { cls := 8, slots := #[.long (93)], vm := .none },
  { cls := 8, slots := #[.long (94)], vm := .none },
  { cls := 8, slots := #[.long (95)], vm := .none },
  { cls := 8, slots := #[.long (96)], vm := .none },
  { cls := 8, slots := #[.long (97)], vm := .none },
  { cls := 8, slots := #[.long (98)], vm := .none },
  { cls := 8, slots := #[.long (99)], vm := .none },
  { cls := 8, slots := #[.long (100)], vm := .none },
  { cls := 8, slots := #[.long (101)], vm := .none },
  { cls := 8, slots := #[.long (102)], vm := .none },
  { cls := 8, slots := #[.long (103)], vm := .none },
  { cls := 8, slots := #[.long (104)], vm := .none },
  { cls := 8, slots := #[.long (105)], vm := .none },
  { cls := 8, slots := #[.long (106)], vm := .none },
  { cls := 8, slots := #[.long (107)], vm := .none },
  { cls := 8, slots := #[.long (108)], vm := .none },
  { cls := 8, slots := #[.long (109)], vm := .none },
  { cls := 8, slots := #[.long (110)], vm := .none },
  { cls := 8, slots := #[.long (111)], vm := .none },
  { cls := 8, slots := #[.long (112)], vm := .none },
  { cls := 8, slots := #[.long (113)], vm := .none },
  { cls := 8, slots := #[.long (114)], vm := .none },
  { cls := 8, slots := #[.long (115)], vm := .none },
  { cls := 8, slots := #[.long (116)], vm := .none },
  { cls := 8, slots := #[.long (117)], vm := .none },
  { cls := 8, slots := #[.long (118)], vm := .none },
  { cls := 8, slots := #[.long (119)], vm := .none },
  { cls := 8, slots := #[.long (120)], vm := .none },
  { cls := 8, slots := #[.long (121)], vm := .none },
  { cls := 8, slots := #[.long (122)], vm := .none },
  { cls := 8, slots := #[.long (123)], vm := .none },
  { cls := 8, slots := #[.long (124)], vm := .none },
  { cls := 8, slots := #[.long (125)], vm := .none },
  { cls := 8, slots := #[.long (126)], vm := .none },
  { cls := 8, slots := #[.long (127)], vm := .none }]
def classes : Array Class := #[k0, k1, k2, k3, k4, k5, k6, k7, k8, k9, k10, k11, k12, k13, k14, k15]
def interned : List (Array UInt16 × Addr) := []
def slotsUsed : Nat := 515
def theMethod : MethodId := ⟨1, 1⟩
def args0 : Array Value := #[.long 0, .long 1, .long 2, .long 3, .long 4, .int 0]
def aboutOver (below : List Frame) : State where
  vm := { classes := classes, interned := interned.toArray }
  heap := heap
  slotsUsed := slotsUsed
  threads := #[{ frames := .invoking theMethod args0 :: below }]
def below0 : List Frame := [.native { method := ⟨0, 0⟩, args := #[] }]
def about1 : State := aboutOver below0
def p0 : Program := .bare "" "" ""
def e0 : Env := launch0.env 0 0 0
theorem w_frames : about1.frames = Frame.invoking theMethod args0 :: below0 := rfl
set_option maxRecDepth 65536 in
theorem w_args : argsFit about1.vm theMethod args0 = true := by decide +kernel
set_option maxRecDepth 65536 in
theorem w_heap : heapFits about1 = true := by decide +kernel
set_option maxRecDepth 65536 in
theorem w_runnable : about1.curStatus? = some .runnable := by decide +kernel
set_option maxRecDepth 65536 in
theorem w_alone : about1.alone = true := by decide +kernel
set_option maxRecDepth 65536 in
theorem w_named : about1.methodNamed? x = some theMethod := by decide +kernel
set_option maxRecDepth 65536 in
theorem w_hears : about1.hears theMethod below0 = true := by decide +kernel
set_option maxRecDepth 65536 in
theorem w_ripe : about1.ripe theMethod args0 below0 = true := by decide +kernel
theorem w_running : about1.status = .running := rfl
set_option maxRecDepth 65536 in
theorem w_room : about1.hasRoom e0.platform room_1 = true :=
  launch0.hasRoom_least _ room_1 (by decide +kernel) (by decide +kernel) (by decide +kernel) (by decide +kernel) (by decide +kernel) (by decide +kernel)
theorem allAtoms_all (ts : List Jvm.Cond) (a : Array Jvm.Value) (st : Jvm.State) : (allAtoms ts).before a st = ts.all (fun c => c.before a st) := by
  induction ts with
  | nil => rfl
  | cons c t ih =>
    show (Jvm.Cond.and c (allAtoms t)).before a st = _
    rw [Jvm.Cond.before_and, ih, List.all_cons]
def words1 : List Jvm.Cond := Jvm.Cond.code x code maxLocals ret :: tables_1
/-- a 'code' word, met by the world's own term for the bytes: nothing is compared byte by byte -/
theorem code_word {y : MethodName} {bytes : ByteArray} {mx : Nat} {rt : Option FieldType} {a : Array Value} {s : State} {m : MethodId} {meth : Method} {c : Code} (h1 : s.methodNamed? y = some m) (h2 : s.vm.method? m = some meth) (h3 : meth.code = some c) (h4 : c.code = bytes)
    (h5 : (c.maxLocals == mx && c.exceptionTable.isEmpty && decide (c.maxStack ≤ mostOperands) && decide (meth.sig.returnType = rt) && !meth.locks && decide (parseMethodDescriptor y.desc = some meth.sig)) = true) : (Jvm.Cond.code y bytes mx rt).before a s = true := by
  simp only [Bool.and_eq_true, beq_iff_eq, Bool.not_eq_true', decide_eq_true_eq] at h5
  obtain ⟨⟨⟨⟨⟨g1, g2⟩, g3⟩, g4⟩, g5⟩, g6⟩ := h5
  simp [Cond.before, Cond.holds, Cond.value, h1, h2, h3, h4, g1, g2, g3, g4, g5, g6]
def isCode : Jvm.Cond → Bool
  | .code _ _ _ _ => true
  | _ => false
theorem all_split {L : List Jvm.Cond} {P : Jvm.Cond → Bool} (h1 : L.all (fun c => isCode c || P c) = true) (h2 : ∀ c ∈ L.filter isCode, P c = true) : L.all P = true := by
  refine List.all_eq_true.mpr fun c hc => ?_
  have h := List.all_eq_true.mp h1 c hc
  rcases Bool.eq_false_or_eq_true (isCode c) with hi | hi
  · exact h2 c (List.mem_filter.mpr ⟨hc, hi⟩)
  · simpa [hi] using h
set_option maxRecDepth 65536 in
theorem w_c0 : (Jvm.Cond.code x code maxLocals ret).before args0 about1 = true := code_word (m := ⟨1, 1⟩) (meth := k1m1) (c := k1c1) (by decide +kernel) rfl rfl rfl (by decide +kernel)
set_option maxRecDepth 65536 in
theorem w_c1 : (Jvm.Cond.code ({ cls := "com/example/weaverbird/weaverbird/model/RetryCounts", name := "<init>", desc := "(JJJJ)V" } : Jvm.MethodName) prog_9_method_1_code (9 : Nat) (Option.none : Option Jvm.ClassFile.FieldType)).before args0 about1 = true := code_word (m := ⟨2, 0⟩) (meth := k2m0) (c := k2c0) (by decide +kernel) rfl rfl rfl (by decide +kernel)
set_option maxRecDepth 65536 in
theorem w_c2 : (Jvm.Cond.code ({ cls := "java/lang/Object", name := "<init>", desc := "()V" } : Jvm.MethodName) object_method_1_code (1 : Nat) (Option.none : Option Jvm.ClassFile.FieldType)).before args0 about1 = true := code_word (m := ⟨0, 0⟩) (meth := k0m0) (c := k0c0) (by decide +kernel) rfl rfl rfl (by decide +kernel)
set_option maxRecDepth 65536 in
theorem w_c3 : (Jvm.Cond.code ({ cls := "com/example/weaverbird/weaverbird/model/RetryCounts", name := "equals", desc := "(Ljava/lang/Object;)Z" } : Jvm.MethodName) prog_9_method_7_code (3 : Nat) (Option.some Jvm.ClassFile.FieldType.boolean)).before args0 about1 = true := code_word (m := ⟨2, 1⟩) (meth := k2m1) (c := k2c1) (by decide +kernel) rfl rfl rfl (by decide +kernel)
set_option maxRecDepth 65536 in
theorem w_c4 : (Jvm.Cond.code ({ cls := "java/lang/Long", name := "valueOf", desc := "(J)Ljava/lang/Long;" } : Jvm.MethodName) jdk_35_method_24_code (3 : Nat) (Option.some (Jvm.ClassFile.FieldType.object "java/lang/Long"))).before args0 about1 = true := code_word (m := ⟨8, 0⟩) (meth := k8m0) (c := k8c0) (by decide +kernel) rfl rfl rfl (by decide +kernel)
set_option maxRecDepth 65536 in
theorem w_c5 : (Jvm.Cond.code ({ cls := "java/lang/Long", name := "<init>", desc := "(J)V" } : Jvm.MethodName) jdk_35_method_26_code (3 : Nat) (Option.none : Option Jvm.ClassFile.FieldType)).before args0 about1 = true := code_word (m := ⟨8, 1⟩) (meth := k8m1) (c := k8c1) (by decide +kernel) rfl rfl rfl (by decide +kernel)
set_option maxRecDepth 65536 in
theorem w_c6 : (Jvm.Cond.code ({ cls := "java/lang/Number", name := "<init>", desc := "()V" } : Jvm.MethodName) jdk_18_method_1_code (1 : Nat) (Option.none : Option Jvm.ClassFile.FieldType)).before args0 about1 = true := code_word (m := ⟨4, 0⟩) (meth := k4m0) (c := k4c0) (by decide +kernel) rfl rfl rfl (by decide +kernel)
def codes1 : List Jvm.Cond := [Jvm.Cond.code x code maxLocals ret, Jvm.Cond.code ({ cls := "com/example/weaverbird/weaverbird/model/RetryCounts", name := "<init>", desc := "(JJJJ)V" } : Jvm.MethodName) prog_9_method_1_code (9 : Nat) (Option.none : Option Jvm.ClassFile.FieldType), Jvm.Cond.code ({ cls := "java/lang/Object", name := "<init>", desc := "()V" } : Jvm.MethodName) object_method_1_code (1 : Nat) (Option.none : Option Jvm.ClassFile.FieldType), Jvm.Cond.code ({ cls := "com/example/weaverbird/weaverbird/model/RetryCounts", name := "equals", desc := "(Ljava/lang/Object;)Z" } : Jvm.MethodName) prog_9_method_7_code (3 : Nat) (Option.some Jvm.ClassFile.FieldType.boolean), Jvm.Cond.code ({ cls := "java/lang/Long", name := "valueOf", desc := "(J)Ljava/lang/Long;" } : Jvm.MethodName) jdk_35_method_24_code (3 : Nat) (Option.some (Jvm.ClassFile.FieldType.object "java/lang/Long")), Jvm.Cond.code ({ cls := "java/lang/Long", name := "<init>", desc := "(J)V" } : Jvm.MethodName) jdk_35_method_26_code (3 : Nat) (Option.none : Option Jvm.ClassFile.FieldType), Jvm.Cond.code ({ cls := "java/lang/Number", name := "<init>", desc := "()V" } : Jvm.MethodName) jdk_18_method_1_code (1 : Nat) (Option.none : Option Jvm.ClassFile.FieldType)]
set_option maxRecDepth 65536 in
theorem codes_eq : words1.filter isCode = codes1 := rfl
theorem w_codes : ∀ c ∈ words1.filter isCode, c.before args0 about1 = true := by
  rw [codes_eq]
  intro c hc
  simp only [codes1, List.mem_cons, List.not_mem_nil, or_false] at hc
  rcases hc with rfl | rfl | rfl | rfl | rfl | rfl | rfl
  · exact w_c0
  · exact w_c1
  · exact w_c2
  · exact w_c3
  · exact w_c4
  · exact w_c5
  · exact w_c6
set_option maxRecDepth 65536 in
theorem w_t1 : (words1.take 24).all (fun c => isCode c || c.before args0 about1) = true := by decide +kernel
set_option maxRecDepth 65536 in
theorem w_t2 : ((words1.drop 24).take 24).all (fun c => isCode c || c.before args0 about1) = true := by decide +kernel
set_option maxRecDepth 65536 in
theorem w_t3 : ((words1.drop 24).drop 24).all (fun c => isCode c || c.before args0 about1) = true := by decide +kernel
theorem w_tables : (allAtoms (Jvm.Cond.code x code maxLocals ret :: tables_1)).before args0 about1 = true := by
  rw [allAtoms_all]
  show words1.all (fun c => c.before args0 about1) = true
  refine all_split ?_ w_codes
  rw [← List.take_append_drop 24 words1, List.all_append, w_t1, ← List.take_append_drop 24 (words1.drop 24), List.all_append, w_t2, w_t3]
  rfl
set_option maxRecDepth 65536 in
theorem w_rest : rest_1_c.before args0 about1 = true := by decide +kernel
set_option maxRecDepth 65536 in
theorem w_case : (Jvm.Cond.and given_1 narrow_1).before args0 about1 = true := by decide +kernel
theorem w_applies : (headSpec (Jvm.Cond.code x code maxLocals ret :: tables_1) room_1).applies x e0.platform about1 = true :=
  (Spec.applies_iff w_frames).mpr ⟨w_running, w_runnable, w_alone, w_named, w_hears, w_ripe, w_room, w_tables⟩
theorem atStart : AtStart classFile x code maxLocals ret World_1 tables_1 room_1 Calls_1 rest_1 Pre_1 launch0 p0 e0 about1 theMethod args0 below0 :=
  ⟨lists_1, trivial, launch0.admits_env _ _ _, launch0.least_env, fairChoices_fair.cas, fairChoices_fair.clock, w_frames, w_args, w_heap, w_applies, trivial, w_rest, w_case⟩
end start1
theorem witness_1 : WitnessClaimed_1 := ⟨start1.p0, start1.e0, start1.about1, start1.theMethod, start1.args0, start1.below0, start1.atStart⟩
end Jvm.Pilot.@@N@@
