import JvmDerived
import JvmDerived.Pilot.@@N@@Statement
import JvmDerived.Pilot.@@N@@Code
set_option linter.unusedVariables false
set_option linter.unusedSimpArgs false
namespace Jvm.Pilot.@@N@@
open Jvm Jvm.ClassFile Sem Op Lib Jvm.Free Jvm.Stand Jvm.LawKit Jvm.RoadKit Bundle Jvm.Pilot.@@N@@.Jvm.D
/-- from the state U the run comes to the method's end, where Q holds of what it returns, of the heap and of the places written -/
def Dn (p : Program) (e : Env) (below : List Frame) (s : State) (k n : Nat) (Q : Option Value → Heap → List Loc → Prop) (U : State) : Prop :=
  ∃ t o, Steps p.tables e below U t ∧ t.status = .running ∧ Ended t below o ∧ ∃ v L, o = .returned v ∧ Q v t.heap L ∧ FrameEnd s o t L k n
theorem Dn.by {p : Program} {e : Env} {below : List Frame} {s : State} {k n : Nat} {Q : Option Value → Heap → List Loc → Prop} {U U' : State} (st : ∀ t, Steps p.tables e below U' t → Steps p.tables e below U t) (h : Dn p e below s k n Q U') : Dn p e below s k n Q U := by
  obtain ⟨t, o, h1, h2⟩ := h
  exact ⟨t, o, st t h1, h2⟩
theorem Dn.out {p : Program} {l : Launch} {e : Env} {R : Room} {s : State} {m : MethodId} {args : Array Value} {below : List Frame} {meth : Method} {c : Code} {T : State} {locs : List Loc} {cells slots k n : Nat} {Q : Option Value → Heap → List Loc → Prop} {U : State} (X : Stand p l e R s m args below meth c T locs cells slots) {v : Option Value} (hv : meth.sig.returnType = none → v = none) (hlk : meth.locks = false)
    (st : ∀ fs, (∀ (f : JFrame) (acts : List Action), f.method = m → f.locked = none → f.entered = [] → (doReturn e (T.setTop f) acts v).1 = T.setFrames fs) → Steps p.tables e below U (T.setFrames fs)) (hk : cells ≤ k) (hn : slots ≤ n) (hQ : Q v T.heap locs) : Dn p e below s k n Q U := by
  obtain ⟨fs, hr, hrun, hended, hW, hsame⟩ := X.leave (v := v) hv hlk
  exact ⟨_, _, st fs hr, hrun, hended, v, locs, rfl, hQ, ⟨_, rfl⟩, hW, hsame.mono hk hn⟩
theorem pn0 : plainName "com/example/weaverbird/weaverbird/model/RetryCounts" = true := by first | (simp [plainName, overriddenIn]; done) | decide +kernel
theorem pn1 : plainName "com/example/weaverbird/weaverbird/model/RetryCountsPlusPinLaw" = true := by first | (simp [plainName, overriddenIn]; done) | decide +kernel
theorem pd0 : parseMethodDescriptor "(JJJJ)V" = some ⟨[.long, .long, .long, .long], none⟩ := by decide +kernel
theorem pd1 : parseMethodDescriptor "(Lcom/example/weaverbird/weaverbird/model/RetryCounts;)Lcom/example/weaverbird/weaverbird/model/RetryCounts;" = some ⟨[(.object "com/example/weaverbird/weaverbird/model/RetryCounts")], some (.object "com/example/weaverbird/weaverbird/model/RetryCounts")⟩ := by decide +kernel
theorem pd2 : parseMethodDescriptor "()J" = some ⟨[], some .long⟩ := by decide +kernel
theorem d1_0 : decode prog_9_method_1_code 0 = .ok (.aload_n 0, 1) := by decide +kernel
theorem d1_1 : decode prog_9_method_1_code 1 = .ok (.invokespecial 1, 3) := by decide +kernel
theorem d1_4 : decode prog_9_method_1_code 4 = .ok (.aload_n 0, 1) := by decide +kernel
theorem d1_5 : decode prog_9_method_1_code 5 = .ok (.lload_n 1, 1) := by decide +kernel
theorem d1_6 : decode prog_9_method_1_code 6 = .ok (.putfield 7, 3) := by decide +kernel
theorem d1_9 : decode prog_9_method_1_code 9 = .ok (.aload_n 0, 1) := by decide +kernel
theorem d1_10 : decode prog_9_method_1_code 10 = .ok (.lload_n 3, 1) := by decide +kernel
theorem d1_11 : decode prog_9_method_1_code 11 = .ok (.putfield 13, 3) := by decide +kernel
theorem d1_14 : decode prog_9_method_1_code 14 = .ok (.aload_n 0, 1) := by decide +kernel
theorem d1_15 : decode prog_9_method_1_code 15 = .ok (.lload 5, 2) := by decide +kernel
theorem d1_17 : decode prog_9_method_1_code 17 = .ok (.putfield 16, 3) := by decide +kernel
theorem d1_20 : decode prog_9_method_1_code 20 = .ok (.aload_n 0, 1) := by decide +kernel
theorem d1_21 : decode prog_9_method_1_code 21 = .ok (.lload 7, 2) := by decide +kernel
theorem d1_23 : decode prog_9_method_1_code 23 = .ok (.putfield 19, 3) := by decide +kernel
theorem d1_26 : decode prog_9_method_1_code 26 = .ok (.return_, 1) := by decide +kernel
theorem d3_0 : decode prog_9_method_6_code 0 = .ok (.new 8, 3) := by decide +kernel
theorem d3_3 : decode prog_9_method_6_code 3 = .ok (.dup, 1) := by decide +kernel
theorem d3_4 : decode prog_9_method_6_code 4 = .ok (.aload_n 0, 1) := by decide +kernel
theorem d3_5 : decode prog_9_method_6_code 5 = .ok (.getfield 7, 3) := by decide +kernel
theorem d3_8 : decode prog_9_method_6_code 8 = .ok (.aload_n 1, 1) := by decide +kernel
theorem d3_9 : decode prog_9_method_6_code 9 = .ok (.getfield 7, 3) := by decide +kernel
theorem d3_12 : decode prog_9_method_6_code 12 = .ok (.ladd, 1) := by decide +kernel
theorem d3_13 : decode prog_9_method_6_code 13 = .ok (.aload_n 0, 1) := by decide +kernel
theorem d3_14 : decode prog_9_method_6_code 14 = .ok (.getfield 13, 3) := by decide +kernel
theorem d3_17 : decode prog_9_method_6_code 17 = .ok (.aload_n 1, 1) := by decide +kernel
theorem d3_18 : decode prog_9_method_6_code 18 = .ok (.getfield 13, 3) := by decide +kernel
theorem d3_21 : decode prog_9_method_6_code 21 = .ok (.ladd, 1) := by decide +kernel
theorem d3_22 : decode prog_9_method_6_code 22 = .ok (.aload_n 0, 1) := by decide +kernel
theorem d3_23 : decode prog_9_method_6_code 23 = .ok (.getfield 16, 3) := by decide +kernel
theorem d3_26 : decode prog_9_method_6_code 26 = .ok (.aload_n 1, 1) := by decide +kernel
theorem d3_27 : decode prog_9_method_6_code 27 = .ok (.getfield 16, 3) := by decide +kernel
theorem d3_30 : decode prog_9_method_6_code 30 = .ok (.ladd, 1) := by decide +kernel
theorem d3_31 : decode prog_9_method_6_code 31 = .ok (.aload_n 0, 1) := by decide +kernel
theorem d3_32 : decode prog_9_method_6_code 32 = .ok (.getfield 19, 3) := by decide +kernel
theorem d3_35 : decode prog_9_method_6_code 35 = .ok (.aload_n 1, 1) := by decide +kernel
theorem d3_36 : decode prog_9_method_6_code 36 = .ok (.getfield 19, 3) := by decide +kernel
theorem d3_39 : decode prog_9_method_6_code 39 = .ok (.ladd, 1) := by decide +kernel
theorem d3_40 : decode prog_9_method_6_code 40 = .ok (.invokespecial 22, 3) := by decide +kernel
theorem d3_43 : decode prog_9_method_6_code 43 = .ok (.areturn, 1) := by decide +kernel
theorem d4_0 : decode prog_9_method_2_code 0 = .ok (.aload_n 0, 1) := by decide +kernel
theorem d4_1 : decode prog_9_method_2_code 1 = .ok (.getfield 7, 3) := by decide +kernel
theorem d4_4 : decode prog_9_method_2_code 4 = .ok (.lreturn, 1) := by decide +kernel
theorem d5_0 : decode prog_9_method_3_code 0 = .ok (.aload_n 0, 1) := by decide +kernel
theorem d5_1 : decode prog_9_method_3_code 1 = .ok (.getfield 13, 3) := by decide +kernel
theorem d5_4 : decode prog_9_method_3_code 4 = .ok (.lreturn, 1) := by decide +kernel
theorem d6_0 : decode prog_9_method_4_code 0 = .ok (.aload_n 0, 1) := by decide +kernel
theorem d6_1 : decode prog_9_method_4_code 1 = .ok (.getfield 16, 3) := by decide +kernel
theorem d6_4 : decode prog_9_method_4_code 4 = .ok (.lreturn, 1) := by decide +kernel
theorem d7_0 : decode prog_9_method_5_code 0 = .ok (.aload_n 0, 1) := by decide +kernel
theorem d7_1 : decode prog_9_method_5_code 1 = .ok (.getfield 19, 3) := by decide +kernel
theorem d7_4 : decode prog_9_method_5_code 4 = .ok (.lreturn, 1) := by decide +kernel
abbrev Rm1 : Room := { frames := 1, cells := 0, slots := 0, locals := 12 }
theorem ef_1 (m : MethodId) (o0 : Addr) (q1 : Int64) (q2 : Int64) (q3 : Int64) (q4 : Int64) : entryFrame m #[(.ref o0), (.long q1), (.long q2), (.long q3), (.long q4)] 9 = mkF m 0 #[.val (.ref o0), .val (.long q1), .second, .val (.long q2), .second, .val (.long q3), .second, .val (.long q4), .second] [] := by first | (simp [entryFrame, mkF, argsToLocals, Value.category]; done) | rfl
def Q1 (Z : State) (o0 : Addr) (q1 : Int64) (q2 : Int64) (q3 : Int64) (q4 : Int64) (u_retries : Value) (u_successes : Value) (u_exhausted : Value) (u_permanent : Value) (h0 : Heap) (n0 : Nat) (v : Option Value) (h : Heap) (L : List Loc) : Prop := v = none ∧ Fr n0 L ∧ Keep h0 h [o0] ∧ Exa Z h o0 "com/example/weaverbird/weaverbird/model/RetryCounts" ∧ Fld Z h o0 "com/example/weaverbird/weaverbird/model/RetryCounts" "retries" "J" (.long q1) ∧ Fld Z h o0 "com/example/weaverbird/weaverbird/model/RetryCounts" "successes" "J" (.long q2) ∧ Fld Z h o0 "com/example/weaverbird/weaverbird/model/RetryCounts" "exhausted" "J" (.long q3) ∧ Fld Z h o0 "com/example/weaverbird/weaverbird/model/RetryCounts" "permanent" "J" (.long q4)
set_option maxRecDepth 65536 in
set_option maxHeartbeats 40000000 in
theorem rm1 (l : Launch) (Z : State) (a0 : Array Value) (hw : ∀ d ∈ tables_1, d.before a0 Z = true) (ws : List Jvm.Cond) (o0 : Addr) (q1 : Int64) (q2 : Int64) (q3 : Int64) (q4 : Int64) (u_retries : Value) (u_successes : Value) (u_exhausted : Value) (u_permanent : Value) (h0 : Heap) (n0 : Nat) (Z0 : n0 ≤ h0.size) (g_o0 : n0 ≤ o0) (E_o0 : Exa Z h0 o0 "com/example/weaverbird/weaverbird/model/RetryCounts") (F_u_retries : Fld Z h0 o0 "com/example/weaverbird/weaverbird/model/RetryCounts" "retries" "J" u_retries) (F_u_successes : Fld Z h0 o0 "com/example/weaverbird/weaverbird/model/RetryCounts" "successes" "J" u_successes) (F_u_exhausted : Fld Z h0 o0 "com/example/weaverbird/weaverbird/model/RetryCounts" "exhausted" "J" u_exhausted) (F_u_permanent : Fld Z h0 o0 "com/example/weaverbird/weaverbird/model/RetryCounts" "permanent" "J" u_permanent) :
    MetFree l (⟨"com/example/weaverbird/weaverbird/model/RetryCounts", "<init>", "(JJJJ)V"⟩ : MethodName) (head1 (Jvm.Cond.code (⟨"com/example/weaverbird/weaverbird/model/RetryCounts", "<init>", "(JJJJ)V"⟩ : MethodName) prog_9_method_1_code 9 none :: ws) Rm1) (fun a U => a = #[(.ref o0), (.long q1), (.long q2), (.long q3), (.long q4)] ∧ Z.Warmed39 U.vm ∧ U.heap = h0) (fun _ _ _ _ _ => True) (fun _ U o U' => ∃ v L, o = .returned v ∧ Q1 Z o0 q1 q2 q3 q4 u_retries u_successes u_exhausted u_permanent h0 n0 v U'.heap L ∧ FrameEnd U o U' L Rm1.cells Rm1.slots) := by
  refine MetFree.of_bodySF (plainFor_of_name pn0) hisR ?_
  intro p e s m args below meth c s₁ Bd hml0 hP hK
  obtain ⟨rfl, hZ, hh⟩ := hP
  have hx := Bd.exec
  have hby := Bd.bytes
  have hml : c.maxLocals = 9 := hml0
  have hown : s.vm.findClass "com/example/weaverbird/weaverbird/model/RetryCounts" = some m.cls := findClass_of_methodNamed Bd.named
  have hnm := (name_of_methodNamed Bd.named Bd.method).1
  have X0 : Stand p l e Rm1 s m #[(.ref o0), (.long q1), (.long q2), (.long q3), (.long q4)] below meth c s₁ [] 0 0 := Stand.of_body Bd
  have e0 : s₁.heap = h0 := by rw [← hh, Bd.state]; rfl
  have N0 := Fr.nil n0
  show Dn p e below s Rm1.cells Rm1.slots (Q1 Z o0 q1 q2 q3 q4 u_retries u_successes u_exhausted u_permanent h0 n0) (s₁.setTop (entryFrame m #[(.ref o0), (.long q1), (.long q2), (.long q3), (.long q4)] 9))
  rw [ef_1]
  refine Dn.by (U' := s₁.setTop (mkF m 1 #[.val (.ref o0), .val (.long q1), .second, .val (.long q2), .second, .val (.long q3), .second, .val (.long q4), .second] [(.ref o0)])) (fun _ k => XS.aloadN X0.here hx rfl (hb hby d1_0) rfl rfl k) ?_
  obtain ⟨T1, X1, e1, st1⟩ := initO X0 hx hZ hown (hw _ (List.mem_of_getElem? (i := 7) rfl)) (hw _ (List.mem_of_getElem? (i := 8) rfl)) (hw _ (List.mem_of_getElem? (i := 9) rfl)) e0 (g := (mkF m 1 #[.val (.ref o0), .val (.long q1), .second, .val (.long q2), .second, .val (.long q3), .second, .val (.long q4), .second] [(.ref o0)])) rfl (by rw [hml]; rfl) rfl (hb hby d1_1) (by decide) (W := 0) (by show 2 * 0 + _ ≤ _; exact Nat.le_of_eq rfl) (by decide)
  refine Dn.by (U' := T1.setTop (mkF m 4 #[.val (.ref o0), .val (.long q1), .second, .val (.long q2), .second, .val (.long q3), .second, .val (.long q4), .second] [])) st1 ?_
  refine Dn.by (U' := T1.setTop (mkF m 5 #[.val (.ref o0), .val (.long q1), .second, .val (.long q2), .second, .val (.long q3), .second, .val (.long q4), .second] [(.ref o0)])) (fun _ k => XS.aloadN X1.here hx rfl (hb hby d1_4) rfl rfl k) ?_
  refine Dn.by (U' := T1.setTop (mkF m 6 #[.val (.ref o0), .val (.long q1), .second, .val (.long q2), .second, .val (.long q3), .second, .val (.long q4), .second] [(.long q1), (.ref o0)])) (fun _ k => XS.lloadN X1.here hx rfl (hb hby d1_5) rfl k) ?_
  obtain ⟨T2, h2, X2, e2, W2, st2⟩ := putF X1 hx hZ hown (host := "") (Or.inl (hw _ (List.mem_of_getElem? (i := 10) rfl))) Via.refl e1 F_u_retries E_o0 (Or.inr ⟨(hw _ (List.mem_of_getElem? (i := 11) rfl)), rfl, hnm⟩) (hw _ (List.mem_of_getElem? (i := 2) rfl)) (ty := .long) (by decide) rfl rfl (g := (mkF m 6 #[.val (.ref o0), .val (.long q1), .second, .val (.long q2), .second, .val (.long q3), .second, .val (.long q4), .second] [(.long q1), (.ref o0)])) rfl rfl (hb hby d1_6)
  have F2 := F_u_retries.same W2
  have K3 : Keep h0 h2 [o0] := ((Keep.refl h0 [o0]).wr W2 (Or.inl (List.mem_of_getElem? (i := 0) rfl)))
  have z3 : n0 ≤ h2.size := (Nat.le_trans Z0 (Keep.of_wr W2).1)
  have N2 := Fr.snoc X2 N0 g_o0
  refine Dn.by (U' := T2.setTop (mkF m 9 #[.val (.ref o0), .val (.long q1), .second, .val (.long q2), .second, .val (.long q3), .second, .val (.long q4), .second] [])) st2 ?_
  refine Dn.by (U' := T2.setTop (mkF m 10 #[.val (.ref o0), .val (.long q1), .second, .val (.long q2), .second, .val (.long q3), .second, .val (.long q4), .second] [(.ref o0)])) (fun _ k => XS.aloadN X2.here hx rfl (hb hby d1_9) rfl rfl k) ?_
  refine Dn.by (U' := T2.setTop (mkF m 11 #[.val (.ref o0), .val (.long q1), .second, .val (.long q2), .second, .val (.long q3), .second, .val (.long q4), .second] [(.long q2), (.ref o0)])) (fun _ k => XS.lloadN X2.here hx rfl (hb hby d1_10) rfl k) ?_
  obtain ⟨T4, h4, X4, e4, W4, st4⟩ := putF X2 hx hZ hown (host := "") (Or.inl (hw _ (List.mem_of_getElem? (i := 12) rfl))) Via.refl e2 (F_u_successes.other W2 (Or.inr (slot_ne (Or.inr (hw _ (List.mem_of_getElem? (i := 13) rfl))) (Or.inr (hw _ (List.mem_of_getElem? (i := 11) rfl))) (by decide) (t := .long) (t' := .long) (by decide) (by decide)))) (E_o0.wr W2) (Or.inr ⟨(hw _ (List.mem_of_getElem? (i := 13) rfl)), rfl, hnm⟩) (hw _ (List.mem_of_getElem? (i := 2) rfl)) (ty := .long) (by decide) rfl rfl (g := (mkF m 11 #[.val (.ref o0), .val (.long q1), .second, .val (.long q2), .second, .val (.long q3), .second, .val (.long q4), .second] [(.long q2), (.ref o0)])) rfl rfl (hb hby d1_11)
  have F4 := (F_u_successes.other W2 (Or.inr (slot_ne (Or.inr (hw _ (List.mem_of_getElem? (i := 13) rfl))) (Or.inr (hw _ (List.mem_of_getElem? (i := 11) rfl))) (by decide) (t := .long) (t' := .long) (by decide) (by decide)))).same W4
  have K5 : Keep h0 h4 [o0] := (K3.wr W4 (Or.inl (List.mem_of_getElem? (i := 0) rfl)))
  have z5 : n0 ≤ h4.size := (Nat.le_trans z3 (Keep.of_wr W4).1)
  have N4 := Fr.snoc X4 N2 g_o0
  refine Dn.by (U' := T4.setTop (mkF m 14 #[.val (.ref o0), .val (.long q1), .second, .val (.long q2), .second, .val (.long q3), .second, .val (.long q4), .second] [])) st4 ?_
  refine Dn.by (U' := T4.setTop (mkF m 15 #[.val (.ref o0), .val (.long q1), .second, .val (.long q2), .second, .val (.long q3), .second, .val (.long q4), .second] [(.ref o0)])) (fun _ k => XS.aloadN X4.here hx rfl (hb hby d1_14) rfl rfl k) ?_
  refine Dn.by (U' := T4.setTop (mkF m 17 #[.val (.ref o0), .val (.long q1), .second, .val (.long q2), .second, .val (.long q3), .second, .val (.long q4), .second] [(.long q3), (.ref o0)])) (fun _ k => XS.lload X4.here hx rfl (hb hby d1_15) rfl k) ?_
  obtain ⟨T6, h6, X6, e6, W6, st6⟩ := putF X4 hx hZ hown (host := "") (Or.inl (hw _ (List.mem_of_getElem? (i := 14) rfl))) Via.refl e4 ((F_u_exhausted.other W2 (Or.inr (slot_ne (Or.inr (hw _ (List.mem_of_getElem? (i := 15) rfl))) (Or.inr (hw _ (List.mem_of_getElem? (i := 11) rfl))) (by decide) (t := .long) (t' := .long) (by decide) (by decide)))).other W4 (Or.inr (slot_ne (Or.inr (hw _ (List.mem_of_getElem? (i := 15) rfl))) (Or.inr (hw _ (List.mem_of_getElem? (i := 13) rfl))) (by decide) (t := .long) (t' := .long) (by decide) (by decide)))) ((E_o0.wr W2).wr W4) (Or.inr ⟨(hw _ (List.mem_of_getElem? (i := 15) rfl)), rfl, hnm⟩) (hw _ (List.mem_of_getElem? (i := 2) rfl)) (ty := .long) (by decide) rfl rfl (g := (mkF m 17 #[.val (.ref o0), .val (.long q1), .second, .val (.long q2), .second, .val (.long q3), .second, .val (.long q4), .second] [(.long q3), (.ref o0)])) rfl rfl (hb hby d1_17)
  have F6 := ((F_u_exhausted.other W2 (Or.inr (slot_ne (Or.inr (hw _ (List.mem_of_getElem? (i := 15) rfl))) (Or.inr (hw _ (List.mem_of_getElem? (i := 11) rfl))) (by decide) (t := .long) (t' := .long) (by decide) (by decide)))).other W4 (Or.inr (slot_ne (Or.inr (hw _ (List.mem_of_getElem? (i := 15) rfl))) (Or.inr (hw _ (List.mem_of_getElem? (i := 13) rfl))) (by decide) (t := .long) (t' := .long) (by decide) (by decide)))).same W6
  have K7 : Keep h0 h6 [o0] := (K5.wr W6 (Or.inl (List.mem_of_getElem? (i := 0) rfl)))
  have z7 : n0 ≤ h6.size := (Nat.le_trans z5 (Keep.of_wr W6).1)
  have N6 := Fr.snoc X6 N4 g_o0
  refine Dn.by (U' := T6.setTop (mkF m 20 #[.val (.ref o0), .val (.long q1), .second, .val (.long q2), .second, .val (.long q3), .second, .val (.long q4), .second] [])) st6 ?_
  refine Dn.by (U' := T6.setTop (mkF m 21 #[.val (.ref o0), .val (.long q1), .second, .val (.long q2), .second, .val (.long q3), .second, .val (.long q4), .second] [(.ref o0)])) (fun _ k => XS.aloadN X6.here hx rfl (hb hby d1_20) rfl rfl k) ?_
  refine Dn.by (U' := T6.setTop (mkF m 23 #[.val (.ref o0), .val (.long q1), .second, .val (.long q2), .second, .val (.long q3), .second, .val (.long q4), .second] [(.long q4), (.ref o0)])) (fun _ k => XS.lload X6.here hx rfl (hb hby d1_21) rfl k) ?_
  obtain ⟨T8, h8, X8, e8, W8, st8⟩ := putF X6 hx hZ hown (host := "") (Or.inl (hw _ (List.mem_of_getElem? (i := 16) rfl))) Via.refl e6 (((F_u_permanent.other W2 (Or.inr (slot_ne (Or.inr (hw _ (List.mem_of_getElem? (i := 17) rfl))) (Or.inr (hw _ (List.mem_of_getElem? (i := 11) rfl))) (by decide) (t := .long) (t' := .long) (by decide) (by decide)))).other W4 (Or.inr (slot_ne (Or.inr (hw _ (List.mem_of_getElem? (i := 17) rfl))) (Or.inr (hw _ (List.mem_of_getElem? (i := 13) rfl))) (by decide) (t := .long) (t' := .long) (by decide) (by decide)))).other W6 (Or.inr (slot_ne (Or.inr (hw _ (List.mem_of_getElem? (i := 17) rfl))) (Or.inr (hw _ (List.mem_of_getElem? (i := 15) rfl))) (by decide) (t := .long) (t' := .long) (by decide) (by decide)))) (((E_o0.wr W2).wr W4).wr W6) (Or.inr ⟨(hw _ (List.mem_of_getElem? (i := 17) rfl)), rfl, hnm⟩) (hw _ (List.mem_of_getElem? (i := 2) rfl)) (ty := .long) (by decide) rfl rfl (g := (mkF m 23 #[.val (.ref o0), .val (.long q1), .second, .val (.long q2), .second, .val (.long q3), .second, .val (.long q4), .second] [(.long q4), (.ref o0)])) rfl rfl (hb hby d1_23)
  have F8 := (((F_u_permanent.other W2 (Or.inr (slot_ne (Or.inr (hw _ (List.mem_of_getElem? (i := 17) rfl))) (Or.inr (hw _ (List.mem_of_getElem? (i := 11) rfl))) (by decide) (t := .long) (t' := .long) (by decide) (by decide)))).other W4 (Or.inr (slot_ne (Or.inr (hw _ (List.mem_of_getElem? (i := 17) rfl))) (Or.inr (hw _ (List.mem_of_getElem? (i := 13) rfl))) (by decide) (t := .long) (t' := .long) (by decide) (by decide)))).other W6 (Or.inr (slot_ne (Or.inr (hw _ (List.mem_of_getElem? (i := 17) rfl))) (Or.inr (hw _ (List.mem_of_getElem? (i := 15) rfl))) (by decide) (t := .long) (t' := .long) (by decide) (by decide)))).same W8
  have K9 : Keep h0 h8 [o0] := (K7.wr W8 (Or.inl (List.mem_of_getElem? (i := 0) rfl)))
  have z9 : n0 ≤ h8.size := (Nat.le_trans z7 (Keep.of_wr W8).1)
  have N8 := Fr.snoc X8 N6 g_o0
  refine Dn.by (U' := T8.setTop (mkF m 26 #[.val (.ref o0), .val (.long q1), .second, .val (.long q2), .second, .val (.long q3), .second, .val (.long q4), .second] [])) st8 ?_
  refine Dn.out X8 (v := none) (fun _ => rfl) (BodyLoose.notSynchronized Bd) (fun _ hr => X8.returnOut hx Bd.returns (hb hby d1_26) hr) (by decide) (by decide) ?_
  rw [e8]
  exact ⟨rfl, N8, K9, ((((E_o0.wr W2).wr W4).wr W6).wr W8), (((F2.other W4 (Or.inr (slot_ne (Or.inr (hw _ (List.mem_of_getElem? (i := 11) rfl))) (Or.inr (hw _ (List.mem_of_getElem? (i := 13) rfl))) (by decide) (t := .long) (t' := .long) (by decide) (by decide)))).other W6 (Or.inr (slot_ne (Or.inr (hw _ (List.mem_of_getElem? (i := 11) rfl))) (Or.inr (hw _ (List.mem_of_getElem? (i := 15) rfl))) (by decide) (t := .long) (t' := .long) (by decide) (by decide)))).other W8 (Or.inr (slot_ne (Or.inr (hw _ (List.mem_of_getElem? (i := 11) rfl))) (Or.inr (hw _ (List.mem_of_getElem? (i := 17) rfl))) (by decide) (t := .long) (t' := .long) (by decide) (by decide)))), ((F4.other W6 (Or.inr (slot_ne (Or.inr (hw _ (List.mem_of_getElem? (i := 13) rfl))) (Or.inr (hw _ (List.mem_of_getElem? (i := 15) rfl))) (by decide) (t := .long) (t' := .long) (by decide) (by decide)))).other W8 (Or.inr (slot_ne (Or.inr (hw _ (List.mem_of_getElem? (i := 13) rfl))) (Or.inr (hw _ (List.mem_of_getElem? (i := 17) rfl))) (by decide) (t := .long) (t' := .long) (by decide) (by decide)))), (F6.other W8 (Or.inr (slot_ne (Or.inr (hw _ (List.mem_of_getElem? (i := 15) rfl))) (Or.inr (hw _ (List.mem_of_getElem? (i := 17) rfl))) (by decide) (t := .long) (t' := .long) (by decide) (by decide)))), F8⟩
abbrev Rm3 : Room := { frames := 2, cells := 1, slots := 4, locals := 33 }
theorem ef_3 (m : MethodId) (o0 : Addr) (o1 : Addr) : entryFrame m #[(.ref o0), (.ref o1)] 2 = mkF m 0 #[.val (.ref o0), .val (.ref o1)] [] := by first | (simp [entryFrame, mkF, argsToLocals, Value.category]; done) | rfl
def Q3 (Z : State) (o0 : Addr) (o1 : Addr) (u_retries_o0 : Int64) (u_successes_o0 : Int64) (u_exhausted_o0 : Int64) (u_permanent_o0 : Int64) (u_retries_o1 : Int64) (u_successes_o1 : Int64) (u_exhausted_o1 : Int64) (u_permanent_o1 : Int64) (h0 : Heap) (n0 : Nat) (v : Option Value) (h : Heap) (L : List Loc) : Prop := ∃ b, v = some (.ref b) ∧ Fr n0 L ∧ h0.size ≤ b ∧ Keep h0 h [] ∧ Exa Z h b "com/example/weaverbird/weaverbird/model/RetryCounts" ∧ Fld Z h b "com/example/weaverbird/weaverbird/model/RetryCounts" "retries" "J" (.long (u_retries_o0 + u_retries_o1)) ∧ Fld Z h b "com/example/weaverbird/weaverbird/model/RetryCounts" "successes" "J" (.long (u_successes_o0 + u_successes_o1)) ∧ Fld Z h b "com/example/weaverbird/weaverbird/model/RetryCounts" "exhausted" "J" (.long (u_exhausted_o0 + u_exhausted_o1)) ∧ Fld Z h b "com/example/weaverbird/weaverbird/model/RetryCounts" "permanent" "J" (.long (u_permanent_o0 + u_permanent_o1))
set_option maxRecDepth 65536 in
set_option maxHeartbeats 40000000 in
theorem rm3 (l : Launch) (Z : State) (a0 : Array Value) (hw : ∀ d ∈ tables_1, d.before a0 Z = true) (ws : List Jvm.Cond) (o0 : Addr) (o1 : Addr) (u_retries_o0 : Int64) (u_successes_o0 : Int64) (u_exhausted_o0 : Int64) (u_permanent_o0 : Int64) (u_retries_o1 : Int64) (u_successes_o1 : Int64) (u_exhausted_o1 : Int64) (u_permanent_o1 : Int64) (h0 : Heap) (n0 : Nat) (Z0 : n0 ≤ h0.size) (F_u_retries_o0 : Fld Z h0 o0 "com/example/weaverbird/weaverbird/model/RetryCounts" "retries" "J" (.long u_retries_o0)) (F_u_successes_o0 : Fld Z h0 o0 "com/example/weaverbird/weaverbird/model/RetryCounts" "successes" "J" (.long u_successes_o0)) (F_u_exhausted_o0 : Fld Z h0 o0 "com/example/weaverbird/weaverbird/model/RetryCounts" "exhausted" "J" (.long u_exhausted_o0)) (F_u_permanent_o0 : Fld Z h0 o0 "com/example/weaverbird/weaverbird/model/RetryCounts" "permanent" "J" (.long u_permanent_o0)) (F_u_retries_o1 : Fld Z h0 o1 "com/example/weaverbird/weaverbird/model/RetryCounts" "retries" "J" (.long u_retries_o1)) (F_u_successes_o1 : Fld Z h0 o1 "com/example/weaverbird/weaverbird/model/RetryCounts" "successes" "J" (.long u_successes_o1)) (F_u_exhausted_o1 : Fld Z h0 o1 "com/example/weaverbird/weaverbird/model/RetryCounts" "exhausted" "J" (.long u_exhausted_o1)) (F_u_permanent_o1 : Fld Z h0 o1 "com/example/weaverbird/weaverbird/model/RetryCounts" "permanent" "J" (.long u_permanent_o1)) :
    MetFree l (⟨"com/example/weaverbird/weaverbird/model/RetryCounts", "plus", "(Lcom/example/weaverbird/weaverbird/model/RetryCounts;)Lcom/example/weaverbird/weaverbird/model/RetryCounts;"⟩ : MethodName) (head1 (Jvm.Cond.code (⟨"com/example/weaverbird/weaverbird/model/RetryCounts", "plus", "(Lcom/example/weaverbird/weaverbird/model/RetryCounts;)Lcom/example/weaverbird/weaverbird/model/RetryCounts;"⟩ : MethodName) prog_9_method_6_code 2 (some (.object "com/example/weaverbird/weaverbird/model/RetryCounts")) :: ws) Rm3) (fun a U => a = #[(.ref o0), (.ref o1)] ∧ Z.Warmed39 U.vm ∧ U.heap = h0) (fun _ _ _ _ _ => True) (fun _ U o U' => ∃ v L, o = .returned v ∧ Q3 Z o0 o1 u_retries_o0 u_successes_o0 u_exhausted_o0 u_permanent_o0 u_retries_o1 u_successes_o1 u_exhausted_o1 u_permanent_o1 h0 n0 v U'.heap L ∧ FrameEnd U o U' L Rm3.cells Rm3.slots) := by
  refine MetFree.of_bodySF (plainFor_of_name pn0) hisR ?_
  intro p e s m args below meth c s₁ Bd hml0 hP hK
  obtain ⟨rfl, hZ, hh⟩ := hP
  have hx := Bd.exec
  have hby := Bd.bytes
  have hml : c.maxLocals = 2 := hml0
  have hown : s.vm.findClass "com/example/weaverbird/weaverbird/model/RetryCounts" = some m.cls := findClass_of_methodNamed Bd.named
  have hnm := (name_of_methodNamed Bd.named Bd.method).1
  have X0 : Stand p l e Rm3 s m #[(.ref o0), (.ref o1)] below meth c s₁ [] 0 0 := Stand.of_body Bd
  have e0 : s₁.heap = h0 := by rw [← hh, Bd.state]; rfl
  have N0 := Fr.nil n0
  show Dn p e below s Rm3.cells Rm3.slots (Q3 Z o0 o1 u_retries_o0 u_successes_o0 u_exhausted_o0 u_permanent_o0 u_retries_o1 u_successes_o1 u_exhausted_o1 u_permanent_o1 h0 n0) (s₁.setTop (entryFrame m #[(.ref o0), (.ref o1)] 2))
  rw [ef_3]
  obtain ⟨T1, h1, X1, e1, E1, A1, D1, -, st1⟩ := newO X0 hx hZ hown (hw _ (List.mem_of_getElem? (i := 23) rfl)) (hw _ (List.mem_of_getElem? (i := 2) rfl)) (hw _ (List.mem_of_getElem? (i := 3) rfl)) e0 (g := (mkF m 0 #[.val (.ref o0), .val (.ref o1)] [])) rfl (hb hby d3_0) (by decide) (by decide)
  obtain ⟨b1, g1⟩ : ∃ z, z = h0.size := ⟨_, rfl⟩
  rw [← g1] at A1 D1 st1
  have g_b1 : n0 ≤ b1 := Nat.le_trans Z0 (Nat.le_of_eq g1.symm)
  have sz_b1 : h0.size ≤ b1 := Nat.le_trans (Keep.refl h0 []).1 (Nat.le_of_eq g1.symm)
  have ne_o0_b1 : o0 ≠ b1 := Nat.ne_of_lt (Nat.lt_of_lt_of_le F_u_retries_o0.lt (Nat.le_of_eq g1.symm))
  have ne_o1_b1 : o1 ≠ b1 := Nat.ne_of_lt (Nat.lt_of_lt_of_le F_u_retries_o1.lt (Nat.le_of_eq g1.symm))
  have K2 : Keep h0 h1 [] := ((Keep.refl h0 []).ext E1)
  have z2 : n0 ≤ h1.size := (Nat.le_trans Z0 E1.1)
  have F_retries_b1 : Fld Z h1 b1 "com/example/weaverbird/weaverbird/model/RetryCounts" "retries" "J" (.long (0 : Int64)) := D1 (Or.inr (hw _ (List.mem_of_getElem? (i := 11) rfl))) (ty := .long) (by decide)
  have F_successes_b1 : Fld Z h1 b1 "com/example/weaverbird/weaverbird/model/RetryCounts" "successes" "J" (.long (0 : Int64)) := D1 (Or.inr (hw _ (List.mem_of_getElem? (i := 13) rfl))) (ty := .long) (by decide)
  have F_exhausted_b1 : Fld Z h1 b1 "com/example/weaverbird/weaverbird/model/RetryCounts" "exhausted" "J" (.long (0 : Int64)) := D1 (Or.inr (hw _ (List.mem_of_getElem? (i := 15) rfl))) (ty := .long) (by decide)
  have F_permanent_b1 : Fld Z h1 b1 "com/example/weaverbird/weaverbird/model/RetryCounts" "permanent" "J" (.long (0 : Int64)) := D1 (Or.inr (hw _ (List.mem_of_getElem? (i := 17) rfl))) (ty := .long) (by decide)
  refine Dn.by (U' := T1.setTop (mkF m 3 #[.val (.ref o0), .val (.ref o1)] [(.ref b1)])) st1 ?_
  refine Dn.by (U' := T1.setTop (mkF m 4 #[.val (.ref o0), .val (.ref o1)] [(.ref b1), (.ref b1)])) (fun _ k => XS.dup X1.here hx rfl (hb hby d3_3) rfl rfl k) ?_
  refine Dn.by (U' := T1.setTop (mkF m 5 #[.val (.ref o0), .val (.ref o1)] [(.ref o0), (.ref b1), (.ref b1)])) (fun _ k => XS.aloadN X1.here hx rfl (hb hby d3_4) rfl rfl k) ?_
  obtain ⟨T3, X3, e3, st3⟩ := getF X1 hx hZ hown (host := "") (Or.inl (hw _ (List.mem_of_getElem? (i := 10) rfl))) Via.refl e1 (F_u_retries_o0.ext E1) (g := (mkF m 5 #[.val (.ref o0), .val (.ref o1)] [(.ref o0), (.ref b1), (.ref b1)])) rfl rfl (hb hby d3_5)
  refine Dn.by (U' := T3.setTop (mkF m 8 #[.val (.ref o0), .val (.ref o1)] [(.long u_retries_o0), (.ref b1), (.ref b1)])) st3 ?_
  refine Dn.by (U' := T3.setTop (mkF m 9 #[.val (.ref o0), .val (.ref o1)] [(.ref o1), (.long u_retries_o0), (.ref b1), (.ref b1)])) (fun _ k => XS.aloadN X3.here hx rfl (hb hby d3_8) rfl rfl k) ?_
  obtain ⟨T4, X4, e4, st4⟩ := getF X3 hx hZ hown (host := "") (Or.inl (hw _ (List.mem_of_getElem? (i := 10) rfl))) Via.refl e3 (F_u_retries_o1.ext E1) (g := (mkF m 9 #[.val (.ref o0), .val (.ref o1)] [(.ref o1), (.long u_retries_o0), (.ref b1), (.ref b1)])) rfl rfl (hb hby d3_9)
  refine Dn.by (U' := T4.setTop (mkF m 12 #[.val (.ref o0), .val (.ref o1)] [(.long u_retries_o1), (.long u_retries_o0), (.ref b1), (.ref b1)])) st4 ?_
  refine Dn.by (U' := T4.setTop (mkF m 13 #[.val (.ref o0), .val (.ref o1)] [(.long (u_retries_o0 + u_retries_o1)), (.ref b1), (.ref b1)])) (fun _ k => XS.ladd X4.here hx rfl (hb hby d3_12) rfl k) ?_
  refine Dn.by (U' := T4.setTop (mkF m 14 #[.val (.ref o0), .val (.ref o1)] [(.ref o0), (.long (u_retries_o0 + u_retries_o1)), (.ref b1), (.ref b1)])) (fun _ k => XS.aloadN X4.here hx rfl (hb hby d3_13) rfl rfl k) ?_
  obtain ⟨T5, X5, e5, st5⟩ := getF X4 hx hZ hown (host := "") (Or.inl (hw _ (List.mem_of_getElem? (i := 12) rfl))) Via.refl e4 (F_u_successes_o0.ext E1) (g := (mkF m 14 #[.val (.ref o0), .val (.ref o1)] [(.ref o0), (.long (u_retries_o0 + u_retries_o1)), (.ref b1), (.ref b1)])) rfl rfl (hb hby d3_14)
  refine Dn.by (U' := T5.setTop (mkF m 17 #[.val (.ref o0), .val (.ref o1)] [(.long u_successes_o0), (.long (u_retries_o0 + u_retries_o1)), (.ref b1), (.ref b1)])) st5 ?_
  refine Dn.by (U' := T5.setTop (mkF m 18 #[.val (.ref o0), .val (.ref o1)] [(.ref o1), (.long u_successes_o0), (.long (u_retries_o0 + u_retries_o1)), (.ref b1), (.ref b1)])) (fun _ k => XS.aloadN X5.here hx rfl (hb hby d3_17) rfl rfl k) ?_
  obtain ⟨T6, X6, e6, st6⟩ := getF X5 hx hZ hown (host := "") (Or.inl (hw _ (List.mem_of_getElem? (i := 12) rfl))) Via.refl e5 (F_u_successes_o1.ext E1) (g := (mkF m 18 #[.val (.ref o0), .val (.ref o1)] [(.ref o1), (.long u_successes_o0), (.long (u_retries_o0 + u_retries_o1)), (.ref b1), (.ref b1)])) rfl rfl (hb hby d3_18)
  refine Dn.by (U' := T6.setTop (mkF m 21 #[.val (.ref o0), .val (.ref o1)] [(.long u_successes_o1), (.long u_successes_o0), (.long (u_retries_o0 + u_retries_o1)), (.ref b1), (.ref b1)])) st6 ?_
  refine Dn.by (U' := T6.setTop (mkF m 22 #[.val (.ref o0), .val (.ref o1)] [(.long (u_successes_o0 + u_successes_o1)), (.long (u_retries_o0 + u_retries_o1)), (.ref b1), (.ref b1)])) (fun _ k => XS.ladd X6.here hx rfl (hb hby d3_21) rfl k) ?_
  refine Dn.by (U' := T6.setTop (mkF m 23 #[.val (.ref o0), .val (.ref o1)] [(.ref o0), (.long (u_successes_o0 + u_successes_o1)), (.long (u_retries_o0 + u_retries_o1)), (.ref b1), (.ref b1)])) (fun _ k => XS.aloadN X6.here hx rfl (hb hby d3_22) rfl rfl k) ?_
  obtain ⟨T7, X7, e7, st7⟩ := getF X6 hx hZ hown (host := "") (Or.inl (hw _ (List.mem_of_getElem? (i := 14) rfl))) Via.refl e6 (F_u_exhausted_o0.ext E1) (g := (mkF m 23 #[.val (.ref o0), .val (.ref o1)] [(.ref o0), (.long (u_successes_o0 + u_successes_o1)), (.long (u_retries_o0 + u_retries_o1)), (.ref b1), (.ref b1)])) rfl rfl (hb hby d3_23)
  refine Dn.by (U' := T7.setTop (mkF m 26 #[.val (.ref o0), .val (.ref o1)] [(.long u_exhausted_o0), (.long (u_successes_o0 + u_successes_o1)), (.long (u_retries_o0 + u_retries_o1)), (.ref b1), (.ref b1)])) st7 ?_
  refine Dn.by (U' := T7.setTop (mkF m 27 #[.val (.ref o0), .val (.ref o1)] [(.ref o1), (.long u_exhausted_o0), (.long (u_successes_o0 + u_successes_o1)), (.long (u_retries_o0 + u_retries_o1)), (.ref b1), (.ref b1)])) (fun _ k => XS.aloadN X7.here hx rfl (hb hby d3_26) rfl rfl k) ?_
  obtain ⟨T8, X8, e8, st8⟩ := getF X7 hx hZ hown (host := "") (Or.inl (hw _ (List.mem_of_getElem? (i := 14) rfl))) Via.refl e7 (F_u_exhausted_o1.ext E1) (g := (mkF m 27 #[.val (.ref o0), .val (.ref o1)] [(.ref o1), (.long u_exhausted_o0), (.long (u_successes_o0 + u_successes_o1)), (.long (u_retries_o0 + u_retries_o1)), (.ref b1), (.ref b1)])) rfl rfl (hb hby d3_27)
  refine Dn.by (U' := T8.setTop (mkF m 30 #[.val (.ref o0), .val (.ref o1)] [(.long u_exhausted_o1), (.long u_exhausted_o0), (.long (u_successes_o0 + u_successes_o1)), (.long (u_retries_o0 + u_retries_o1)), (.ref b1), (.ref b1)])) st8 ?_
  refine Dn.by (U' := T8.setTop (mkF m 31 #[.val (.ref o0), .val (.ref o1)] [(.long (u_exhausted_o0 + u_exhausted_o1)), (.long (u_successes_o0 + u_successes_o1)), (.long (u_retries_o0 + u_retries_o1)), (.ref b1), (.ref b1)])) (fun _ k => XS.ladd X8.here hx rfl (hb hby d3_30) rfl k) ?_
  refine Dn.by (U' := T8.setTop (mkF m 32 #[.val (.ref o0), .val (.ref o1)] [(.ref o0), (.long (u_exhausted_o0 + u_exhausted_o1)), (.long (u_successes_o0 + u_successes_o1)), (.long (u_retries_o0 + u_retries_o1)), (.ref b1), (.ref b1)])) (fun _ k => XS.aloadN X8.here hx rfl (hb hby d3_31) rfl rfl k) ?_
  obtain ⟨T9, X9, e9, st9⟩ := getF X8 hx hZ hown (host := "") (Or.inl (hw _ (List.mem_of_getElem? (i := 16) rfl))) Via.refl e8 (F_u_permanent_o0.ext E1) (g := (mkF m 32 #[.val (.ref o0), .val (.ref o1)] [(.ref o0), (.long (u_exhausted_o0 + u_exhausted_o1)), (.long (u_successes_o0 + u_successes_o1)), (.long (u_retries_o0 + u_retries_o1)), (.ref b1), (.ref b1)])) rfl rfl (hb hby d3_32)
  refine Dn.by (U' := T9.setTop (mkF m 35 #[.val (.ref o0), .val (.ref o1)] [(.long u_permanent_o0), (.long (u_exhausted_o0 + u_exhausted_o1)), (.long (u_successes_o0 + u_successes_o1)), (.long (u_retries_o0 + u_retries_o1)), (.ref b1), (.ref b1)])) st9 ?_
  refine Dn.by (U' := T9.setTop (mkF m 36 #[.val (.ref o0), .val (.ref o1)] [(.ref o1), (.long u_permanent_o0), (.long (u_exhausted_o0 + u_exhausted_o1)), (.long (u_successes_o0 + u_successes_o1)), (.long (u_retries_o0 + u_retries_o1)), (.ref b1), (.ref b1)])) (fun _ k => XS.aloadN X9.here hx rfl (hb hby d3_35) rfl rfl k) ?_
  obtain ⟨T10, X10, e10, st10⟩ := getF X9 hx hZ hown (host := "") (Or.inl (hw _ (List.mem_of_getElem? (i := 16) rfl))) Via.refl e9 (F_u_permanent_o1.ext E1) (g := (mkF m 36 #[.val (.ref o0), .val (.ref o1)] [(.ref o1), (.long u_permanent_o0), (.long (u_exhausted_o0 + u_exhausted_o1)), (.long (u_successes_o0 + u_successes_o1)), (.long (u_retries_o0 + u_retries_o1)), (.ref b1), (.ref b1)])) rfl rfl (hb hby d3_36)
  refine Dn.by (U' := T10.setTop (mkF m 39 #[.val (.ref o0), .val (.ref o1)] [(.long u_permanent_o1), (.long u_permanent_o0), (.long (u_exhausted_o0 + u_exhausted_o1)), (.long (u_successes_o0 + u_successes_o1)), (.long (u_retries_o0 + u_retries_o1)), (.ref b1), (.ref b1)])) st10 ?_
  refine Dn.by (U' := T10.setTop (mkF m 40 #[.val (.ref o0), .val (.ref o1)] [(.long (u_permanent_o0 + u_permanent_o1)), (.long (u_exhausted_o0 + u_exhausted_o1)), (.long (u_successes_o0 + u_successes_o1)), (.long (u_retries_o0 + u_retries_o1)), (.ref b1), (.ref b1)])) (fun _ k => XS.ladd X10.here hx rfl (hb hby d3_39) rfl k) ?_
  obtain ⟨_, _, ⟨T11, L11, k11, n11⟩, -, X11, ⟨Lc11, hQ11, l11, y11, z11⟩, st11⟩ := X10.specialBack hx (y := (⟨"com/example/weaverbird/weaverbird/model/RetryCounts", "<init>", "(JJJJ)V"⟩ : MethodName)) rfl hown (mvT hZ (hw _ (List.mem_of_getElem? (i := 24) rfl))) (mvT hZ (hw _ (List.mem_of_getElem? (i := 5) rfl))) (mvT hZ (hw _ (List.mem_of_getElem? (i := 6) rfl))) (by decide) (backOf (W := 1) (rm1 l Z a0 hw [] b1 (u_retries_o0 + u_retries_o1) (u_successes_o0 + u_successes_o1) (u_exhausted_o0 + u_exhausted_o1) (u_permanent_o0 + u_permanent_o1) ((.long (0 : Int64)) : Value) ((.long (0 : Int64)) : Value) ((.long (0 : Int64)) : Value) ((.long (0 : Int64)) : Value) h1 n0 z2 g_b1 A1 F_retries_b1 F_successes_b1 F_exhausted_b1 F_permanent_b1) hZ (hw _ (List.mem_of_getElem? (i := 6) rfl)) (hw _ (List.mem_of_getElem? (i := 3) rfl)) (by decide) (by decide)) (g := (mkF m 40 #[.val (.ref o0), .val (.ref o1)] [(.long (u_permanent_o0 + u_permanent_o1)), (.long (u_exhausted_o0 + u_exhausted_o1)), (.long (u_successes_o0 + u_successes_o1)), (.long (u_retries_o0 + u_retries_o1)), (.ref b1), (.ref b1)])) rfl (by rw [hml]; rfl) (Steps.refl _) (a := b1) (argsL := [(.long (u_retries_o0 + u_retries_o1)), (.long (u_successes_o0 + u_successes_o1)), (.long (u_exhausted_o0 + u_exhausted_o1)), (.long (u_permanent_o0 + u_permanent_o1))]) (rest := [(.ref b1)]) (lenOf pd0 rfl) rfl (by show 2 * 0 + _ ≤ _; exact Nat.le_of_eq rfl) (hb hby d3_40) (fun _ _ => ⟨rfl, e10, (by decide : 1 + 0 ≤ _), (by decide : 4 + 0 ≤ _)⟩)
  dsimp only [Pt.U, Pt.locs, Pt.cells, Pt.slots] at X11 l11 y11 z11 st11 hQ11
  subst l11 y11 z11
  obtain ⟨rfl, N11q, KK11, EE11, FF11_0, FF11_1, FF11_2, FF11_3⟩ := hQ11
  have N11 := Fr.app N0 N11q
  have K12 : Keep h0 T11.heap [] := (K2.trans KK11 (allS (Or.inr sz_b1) all0))
  have z12 : n0 ≤ T11.heap.size := (Nat.le_trans z2 KK11.1)
  refine Dn.by (U' := T11.setTop (mkF m 43 #[.val (.ref o0), .val (.ref o1)] [(.ref b1)])) (fun _ k => st11.trans k) ?_
  refine Dn.out X11 (v := (some (.ref b1))) (fun h => by rw [Bd.returns] at h; cases h) (BodyLoose.notSynchronized Bd) (fun _ hr => retOut X11 hx Bd.returns rfl (Or.inr (Or.inr (Or.inr (Or.inr ⟨rfl, rfl, rfl⟩)))) (hb hby d3_43) hr) (by decide) (by decide) ?_
  exact ⟨b1, rfl, N11, sz_b1, K12, (A1.keep KK11), FF11_0, FF11_1, FF11_2, FF11_3⟩
abbrev Rm4 : Room := { frames := 0, cells := 0, slots := 0, locals := 0 }
theorem ef_4 (m : MethodId) (o0 : Addr) : entryFrame m #[(.ref o0)] 1 = mkF m 0 #[.val (.ref o0)] [] := by first | (simp [entryFrame, mkF, argsToLocals, Value.category]; done) | rfl
def Q4 (Z : State) (o0 : Addr) (u_retries_o0 : Int64) (h0 : Heap) (n0 : Nat) (v : Option Value) (h : Heap) (L : List Loc) : Prop := v = some (.long u_retries_o0) ∧ Fr n0 L ∧ h = h0
set_option maxRecDepth 65536 in
set_option maxHeartbeats 40000000 in
theorem rm4 (l : Launch) (Z : State) (a0 : Array Value) (hw : ∀ d ∈ tables_1, d.before a0 Z = true) (ws : List Jvm.Cond) (o0 : Addr) (u_retries_o0 : Int64) (h0 : Heap) (n0 : Nat) (Z0 : n0 ≤ h0.size) (F_u_retries_o0 : Fld Z h0 o0 "com/example/weaverbird/weaverbird/model/RetryCounts" "retries" "J" (.long u_retries_o0)) :
    MetFree l (⟨"com/example/weaverbird/weaverbird/model/RetryCounts", "retries", "()J"⟩ : MethodName) (head1 (Jvm.Cond.code (⟨"com/example/weaverbird/weaverbird/model/RetryCounts", "retries", "()J"⟩ : MethodName) prog_9_method_2_code 1 (some .long) :: ws) Rm4) (fun a U => a = #[(.ref o0)] ∧ Z.Warmed39 U.vm ∧ U.heap = h0) (fun _ _ _ _ _ => True) (fun _ U o U' => ∃ v L, o = .returned v ∧ Q4 Z o0 u_retries_o0 h0 n0 v U'.heap L ∧ FrameEnd U o U' L Rm4.cells Rm4.slots) := by
  refine MetFree.of_bodySF (plainFor_of_name pn0) hisR ?_
  intro p e s m args below meth c s₁ Bd hml0 hP hK
  obtain ⟨rfl, hZ, hh⟩ := hP
  have hx := Bd.exec
  have hby := Bd.bytes
  have hml : c.maxLocals = 1 := hml0
  have hown : s.vm.findClass "com/example/weaverbird/weaverbird/model/RetryCounts" = some m.cls := findClass_of_methodNamed Bd.named
  have hnm := (name_of_methodNamed Bd.named Bd.method).1
  have X0 : Stand p l e Rm4 s m #[(.ref o0)] below meth c s₁ [] 0 0 := Stand.of_body Bd
  have e0 : s₁.heap = h0 := by rw [← hh, Bd.state]; rfl
  have N0 := Fr.nil n0
  show Dn p e below s Rm4.cells Rm4.slots (Q4 Z o0 u_retries_o0 h0 n0) (s₁.setTop (entryFrame m #[(.ref o0)] 1))
  rw [ef_4]
  refine Dn.by (U' := s₁.setTop (mkF m 1 #[.val (.ref o0)] [(.ref o0)])) (fun _ k => XS.aloadN X0.here hx rfl (hb hby d4_0) rfl rfl k) ?_
  obtain ⟨T1, X1, e1, st1⟩ := getF X0 hx hZ hown (host := "") (Or.inl (hw _ (List.mem_of_getElem? (i := 10) rfl))) Via.refl e0 F_u_retries_o0 (g := (mkF m 1 #[.val (.ref o0)] [(.ref o0)])) rfl rfl (hb hby d4_1)
  refine Dn.by (U' := T1.setTop (mkF m 4 #[.val (.ref o0)] [(.long u_retries_o0)])) st1 ?_
  refine Dn.out X1 (v := (some (.long u_retries_o0))) (fun h => by rw [Bd.returns] at h; cases h) (BodyLoose.notSynchronized Bd) (fun _ hr => retOut X1 hx Bd.returns rfl (Or.inr (Or.inl ⟨rfl, rfl, _, rfl⟩)) (hb hby d4_4) hr) (by decide) (by decide) ?_
  rw [e1]
  exact ⟨rfl, N0, rfl⟩
abbrev Rm5 : Room := { frames := 0, cells := 0, slots := 0, locals := 0 }
theorem ef_5 (m : MethodId) (o0 : Addr) : entryFrame m #[(.ref o0)] 1 = mkF m 0 #[.val (.ref o0)] [] := by first | (simp [entryFrame, mkF, argsToLocals, Value.category]; done) | rfl
def Q5 (Z : State) (o0 : Addr) (u_successes_o0 : Int64) (h0 : Heap) (n0 : Nat) (v : Option Value) (h : Heap) (L : List Loc) : Prop := v = some (.long u_successes_o0) ∧ Fr n0 L ∧ h = h0
set_option maxRecDepth 65536 in
set_option maxHeartbeats 40000000 in
theorem rm5 (l : Launch) (Z : State) (a0 : Array Value) (hw : ∀ d ∈ tables_1, d.before a0 Z = true) (ws : List Jvm.Cond) (o0 : Addr) (u_successes_o0 : Int64) (h0 : Heap) (n0 : Nat) (Z0 : n0 ≤ h0.size) (F_u_successes_o0 : Fld Z h0 o0 "com/example/weaverbird/weaverbird/model/RetryCounts" "successes" "J" (.long u_successes_o0)) :
    MetFree l (⟨"com/example/weaverbird/weaverbird/model/RetryCounts", "successes", "()J"⟩ : MethodName) (head1 (Jvm.Cond.code (⟨"com/example/weaverbird/weaverbird/model/RetryCounts", "successes", "()J"⟩ : MethodName) prog_9_method_3_code 1 (some .long) :: ws) Rm5) (fun a U => a = #[(.ref o0)] ∧ Z.Warmed39 U.vm ∧ U.heap = h0) (fun _ _ _ _ _ => True) (fun _ U o U' => ∃ v L, o = .returned v ∧ Q5 Z o0 u_successes_o0 h0 n0 v U'.heap L ∧ FrameEnd U o U' L Rm5.cells Rm5.slots) := by
  refine MetFree.of_bodySF (plainFor_of_name pn0) hisR ?_
  intro p e s m args below meth c s₁ Bd hml0 hP hK
  obtain ⟨rfl, hZ, hh⟩ := hP
  have hx := Bd.exec
  have hby := Bd.bytes
  have hml : c.maxLocals = 1 := hml0
  have hown : s.vm.findClass "com/example/weaverbird/weaverbird/model/RetryCounts" = some m.cls := findClass_of_methodNamed Bd.named
  have hnm := (name_of_methodNamed Bd.named Bd.method).1
  have X0 : Stand p l e Rm5 s m #[(.ref o0)] below meth c s₁ [] 0 0 := Stand.of_body Bd
  have e0 : s₁.heap = h0 := by rw [← hh, Bd.state]; rfl
  have N0 := Fr.nil n0
  show Dn p e below s Rm5.cells Rm5.slots (Q5 Z o0 u_successes_o0 h0 n0) (s₁.setTop (entryFrame m #[(.ref o0)] 1))
  rw [ef_5]
  refine Dn.by (U' := s₁.setTop (mkF m 1 #[.val (.ref o0)] [(.ref o0)])) (fun _ k => XS.aloadN X0.here hx rfl (hb hby d5_0) rfl rfl k) ?_
  obtain ⟨T1, X1, e1, st1⟩ := getF X0 hx hZ hown (host := "") (Or.inl (hw _ (List.mem_of_getElem? (i := 12) rfl))) Via.refl e0 F_u_successes_o0 (g := (mkF m 1 #[.val (.ref o0)] [(.ref o0)])) rfl rfl (hb hby d5_1)
  refine Dn.by (U' := T1.setTop (mkF m 4 #[.val (.ref o0)] [(.long u_successes_o0)])) st1 ?_
  refine Dn.out X1 (v := (some (.long u_successes_o0))) (fun h => by rw [Bd.returns] at h; cases h) (BodyLoose.notSynchronized Bd) (fun _ hr => retOut X1 hx Bd.returns rfl (Or.inr (Or.inl ⟨rfl, rfl, _, rfl⟩)) (hb hby d5_4) hr) (by decide) (by decide) ?_
  rw [e1]
  exact ⟨rfl, N0, rfl⟩
abbrev Rm6 : Room := { frames := 0, cells := 0, slots := 0, locals := 0 }
theorem ef_6 (m : MethodId) (o0 : Addr) : entryFrame m #[(.ref o0)] 1 = mkF m 0 #[.val (.ref o0)] [] := by first | (simp [entryFrame, mkF, argsToLocals, Value.category]; done) | rfl
def Q6 (Z : State) (o0 : Addr) (u_exhausted_o0 : Int64) (h0 : Heap) (n0 : Nat) (v : Option Value) (h : Heap) (L : List Loc) : Prop := v = some (.long u_exhausted_o0) ∧ Fr n0 L ∧ h = h0
set_option maxRecDepth 65536 in
set_option maxHeartbeats 40000000 in
theorem rm6 (l : Launch) (Z : State) (a0 : Array Value) (hw : ∀ d ∈ tables_1, d.before a0 Z = true) (ws : List Jvm.Cond) (o0 : Addr) (u_exhausted_o0 : Int64) (h0 : Heap) (n0 : Nat) (Z0 : n0 ≤ h0.size) (F_u_exhausted_o0 : Fld Z h0 o0 "com/example/weaverbird/weaverbird/model/RetryCounts" "exhausted" "J" (.long u_exhausted_o0)) :
    MetFree l (⟨"com/example/weaverbird/weaverbird/model/RetryCounts", "exhausted", "()J"⟩ : MethodName) (head1 (Jvm.Cond.code (⟨"com/example/weaverbird/weaverbird/model/RetryCounts", "exhausted", "()J"⟩ : MethodName) prog_9_method_4_code 1 (some .long) :: ws) Rm6) (fun a U => a = #[(.ref o0)] ∧ Z.Warmed39 U.vm ∧ U.heap = h0) (fun _ _ _ _ _ => True) (fun _ U o U' => ∃ v L, o = .returned v ∧ Q6 Z o0 u_exhausted_o0 h0 n0 v U'.heap L ∧ FrameEnd U o U' L Rm6.cells Rm6.slots) := by
  refine MetFree.of_bodySF (plainFor_of_name pn0) hisR ?_
  intro p e s m args below meth c s₁ Bd hml0 hP hK
  obtain ⟨rfl, hZ, hh⟩ := hP
  have hx := Bd.exec
  have hby := Bd.bytes
  have hml : c.maxLocals = 1 := hml0
  have hown : s.vm.findClass "com/example/weaverbird/weaverbird/model/RetryCounts" = some m.cls := findClass_of_methodNamed Bd.named
  have hnm := (name_of_methodNamed Bd.named Bd.method).1
  have X0 : Stand p l e Rm6 s m #[(.ref o0)] below meth c s₁ [] 0 0 := Stand.of_body Bd
  have e0 : s₁.heap = h0 := by rw [← hh, Bd.state]; rfl
  have N0 := Fr.nil n0
  show Dn p e below s Rm6.cells Rm6.slots (Q6 Z o0 u_exhausted_o0 h0 n0) (s₁.setTop (entryFrame m #[(.ref o0)] 1))
  rw [ef_6]
  refine Dn.by (U' := s₁.setTop (mkF m 1 #[.val (.ref o0)] [(.ref o0)])) (fun _ k => XS.aloadN X0.here hx rfl (hb hby d6_0) rfl rfl k) ?_
  obtain ⟨T1, X1, e1, st1⟩ := getF X0 hx hZ hown (host := "") (Or.inl (hw _ (List.mem_of_getElem? (i := 14) rfl))) Via.refl e0 F_u_exhausted_o0 (g := (mkF m 1 #[.val (.ref o0)] [(.ref o0)])) rfl rfl (hb hby d6_1)
  refine Dn.by (U' := T1.setTop (mkF m 4 #[.val (.ref o0)] [(.long u_exhausted_o0)])) st1 ?_
  refine Dn.out X1 (v := (some (.long u_exhausted_o0))) (fun h => by rw [Bd.returns] at h; cases h) (BodyLoose.notSynchronized Bd) (fun _ hr => retOut X1 hx Bd.returns rfl (Or.inr (Or.inl ⟨rfl, rfl, _, rfl⟩)) (hb hby d6_4) hr) (by decide) (by decide) ?_
  rw [e1]
  exact ⟨rfl, N0, rfl⟩
abbrev Rm7 : Room := { frames := 0, cells := 0, slots := 0, locals := 0 }
theorem ef_7 (m : MethodId) (o0 : Addr) : entryFrame m #[(.ref o0)] 1 = mkF m 0 #[.val (.ref o0)] [] := by first | (simp [entryFrame, mkF, argsToLocals, Value.category]; done) | rfl
def Q7 (Z : State) (o0 : Addr) (u_permanent_o0 : Int64) (h0 : Heap) (n0 : Nat) (v : Option Value) (h : Heap) (L : List Loc) : Prop := v = some (.long u_permanent_o0) ∧ Fr n0 L ∧ h = h0
set_option maxRecDepth 65536 in
set_option maxHeartbeats 40000000 in
theorem rm7 (l : Launch) (Z : State) (a0 : Array Value) (hw : ∀ d ∈ tables_1, d.before a0 Z = true) (ws : List Jvm.Cond) (o0 : Addr) (u_permanent_o0 : Int64) (h0 : Heap) (n0 : Nat) (Z0 : n0 ≤ h0.size) (F_u_permanent_o0 : Fld Z h0 o0 "com/example/weaverbird/weaverbird/model/RetryCounts" "permanent" "J" (.long u_permanent_o0)) :
    MetFree l (⟨"com/example/weaverbird/weaverbird/model/RetryCounts", "permanent", "()J"⟩ : MethodName) (head1 (Jvm.Cond.code (⟨"com/example/weaverbird/weaverbird/model/RetryCounts", "permanent", "()J"⟩ : MethodName) prog_9_method_5_code 1 (some .long) :: ws) Rm7) (fun a U => a = #[(.ref o0)] ∧ Z.Warmed39 U.vm ∧ U.heap = h0) (fun _ _ _ _ _ => True) (fun _ U o U' => ∃ v L, o = .returned v ∧ Q7 Z o0 u_permanent_o0 h0 n0 v U'.heap L ∧ FrameEnd U o U' L Rm7.cells Rm7.slots) := by
  refine MetFree.of_bodySF (plainFor_of_name pn0) hisR ?_
  intro p e s m args below meth c s₁ Bd hml0 hP hK
  obtain ⟨rfl, hZ, hh⟩ := hP
  have hx := Bd.exec
  have hby := Bd.bytes
  have hml : c.maxLocals = 1 := hml0
  have hown : s.vm.findClass "com/example/weaverbird/weaverbird/model/RetryCounts" = some m.cls := findClass_of_methodNamed Bd.named
  have hnm := (name_of_methodNamed Bd.named Bd.method).1
  have X0 : Stand p l e Rm7 s m #[(.ref o0)] below meth c s₁ [] 0 0 := Stand.of_body Bd
  have e0 : s₁.heap = h0 := by rw [← hh, Bd.state]; rfl
  have N0 := Fr.nil n0
  show Dn p e below s Rm7.cells Rm7.slots (Q7 Z o0 u_permanent_o0 h0 n0) (s₁.setTop (entryFrame m #[(.ref o0)] 1))
  rw [ef_7]
  refine Dn.by (U' := s₁.setTop (mkF m 1 #[.val (.ref o0)] [(.ref o0)])) (fun _ k => XS.aloadN X0.here hx rfl (hb hby d7_0) rfl rfl k) ?_
  obtain ⟨T1, X1, e1, st1⟩ := getF X0 hx hZ hown (host := "") (Or.inl (hw _ (List.mem_of_getElem? (i := 16) rfl))) Via.refl e0 F_u_permanent_o0 (g := (mkF m 1 #[.val (.ref o0)] [(.ref o0)])) rfl rfl (hb hby d7_1)
  refine Dn.by (U' := T1.setTop (mkF m 4 #[.val (.ref o0)] [(.long u_permanent_o0)])) st1 ?_
  refine Dn.out X1 (v := (some (.long u_permanent_o0))) (fun h => by rw [Bd.returns] at h; cases h) (BodyLoose.notSynchronized Bd) (fun _ hr => retOut X1 hx Bd.returns rfl (Or.inr (Or.inl ⟨rfl, rfl, _, rfl⟩)) (hb hby d7_4) hr) (by decide) (by decide) ?_
  rw [e1]
  exact ⟨rfl, N0, rfl⟩
theorem ef_0 (m : MethodId) (q0 : Int64) (q1 : Int64) (q2 : Int64) (q3 : Int64) (q4 : Int64) (q5 : Int64) : entryFrame m #[(.long q0), (.long q1), (.long q2), (.long q3), (.long q4), (.long q5)] maxLocals = mkF m 0 #[.val (.long q0), .second, .val (.long q1), .second, .val (.long q2), .second, .val (.long q3), .second, .val (.long q4), .second, .val (.long q5), .second, .unset, .unset, .unset, .unset, .unset, .unset, .unset, .unset, .unset, .unset, .unset] [] := by first | (simp [entryFrame, mkF, argsToLocals, Value.category, maxLocals]; done) | rfl
def Q0 (Z : State) (q0 : Int64) (q1 : Int64) (q2 : Int64) (q3 : Int64) (q4 : Int64) (q5 : Int64) (h0 : Heap) (n0 : Nat) (v : Option Value) (h : Heap) (L : List Loc) : Prop := v = some (.int 1) ∧ Fr n0 L
set_option maxRecDepth 65536 in
set_option maxHeartbeats 40000000 in
theorem rm0 (l : Launch) (Z : State) (a0 : Array Value) (hw : ∀ d ∈ tables_1, d.before a0 Z = true) (ws : List Jvm.Cond) (q0 : Int64) (q1 : Int64) (q2 : Int64) (q3 : Int64) (q4 : Int64) (q5 : Int64) (h0 : Heap) (n0 : Nat) (Z0 : n0 ≤ h0.size)  :
    MetFree l x (head1 (Jvm.Cond.code x code maxLocals ret :: ws) room_1) (fun a U => a = #[(.long q0), (.long q1), (.long q2), (.long q3), (.long q4), (.long q5)] ∧ Z.Warmed39 U.vm ∧ U.heap = h0) (fun _ _ _ _ _ => True) (fun _ U o U' => ∃ v L, o = .returned v ∧ Q0 Z q0 q1 q2 q3 q4 q5 h0 n0 v U'.heap L ∧ FrameEnd U o U' L 16 128) := by
  refine MetFree.of_bodySF (plainFor_of_name pn1) hisR ?_
  intro p e s m args below meth c s₁ Bd hml0 hP hK
  obtain ⟨rfl, hZ, hh⟩ := hP
  have hx := Bd.exec
  have hby := Bd.bytes
  have hml : c.maxLocals = 23 := hml0
  have hown : s.vm.findClass "com/example/weaverbird/weaverbird/model/RetryCountsPlusPinLaw" = some m.cls := findClass_of_methodNamed Bd.named
  have hnm := (name_of_methodNamed Bd.named Bd.method).1
  have X0 : Stand p l e room_1 s m #[(.long q0), (.long q1), (.long q2), (.long q3), (.long q4), (.long q5)] below meth c s₁ [] 0 0 := Stand.of_body Bd
  have e0 : s₁.heap = h0 := by rw [← hh, Bd.state]; rfl
  have N0 := Fr.nil n0
  show Dn p e below s 16 128 (Q0 Z q0 q1 q2 q3 q4 q5 h0 n0) (s₁.setTop (entryFrame m #[(.long q0), (.long q1), (.long q2), (.long q3), (.long q4), (.long q5)] maxLocals))
  rw [ef_0]
  refine Dn.by (U' := s₁.setTop (mkF m 2 #[.val (.long q0), .second, .val (.long q1), .second, .val (.long q2), .second, .val (.long q3), .second, .val (.long q4), .second, .val (.long q5), .second, .unset, .unset, .unset, .unset, .unset, .unset, .unset, .unset, .unset, .unset, .unset] [(.long q4)])) (fun _ k => XS.lload X0.here hx rfl (hb hby at_0) rfl k) ?_
  refine Dn.by (U' := s₁.setTop (mkF m 4 #[.val (.long q0), .second, .val (.long q1), .second, .val (.long q2), .second, .val (.long q3), .second, .val (.long q4), .second, .val (.long q5), .second, .val (.long q4), .second, .unset, .unset, .unset, .unset, .unset, .unset, .unset, .unset, .unset] [])) (fun _ k => XS.lstore X0.here hx rfl (hb hby at_2) rfl (l' := #[.val (.long q0), .second, .val (.long q1), .second, .val (.long q2), .second, .val (.long q3), .second, .val (.long q4), .second, .val (.long q5), .second, .val (.long q4), .second, .unset, .unset, .unset, .unset, .unset, .unset, .unset, .unset, .unset]) rfl k) ?_
  refine Dn.by (U' := s₁.setTop (mkF m 6 #[.val (.long q0), .second, .val (.long q1), .second, .val (.long q2), .second, .val (.long q3), .second, .val (.long q4), .second, .val (.long q5), .second, .val (.long q4), .second, .unset, .unset, .unset, .unset, .unset, .unset, .unset, .unset, .unset] [(.long q5)])) (fun _ k => XS.lload X0.here hx rfl (hb hby at_4) rfl k) ?_
  refine Dn.by (U' := s₁.setTop (mkF m 8 #[.val (.long q0), .second, .val (.long q1), .second, .val (.long q2), .second, .val (.long q3), .second, .val (.long q4), .second, .val (.long q5), .second, .val (.long q4), .second, .val (.long q5), .second, .unset, .unset, .unset, .unset, .unset, .unset, .unset] [])) (fun _ k => XS.lstore X0.here hx rfl (hb hby at_6) rfl (l' := #[.val (.long q0), .second, .val (.long q1), .second, .val (.long q2), .second, .val (.long q3), .second, .val (.long q4), .second, .val (.long q5), .second, .val (.long q4), .second, .val (.long q5), .second, .unset, .unset, .unset, .unset, .unset, .unset, .unset]) rfl k) ?_
  refine Dn.by (U' := s₁.setTop (mkF m 10 #[.val (.long q0), .second, .val (.long q1), .second, .val (.long q2), .second, .val (.long q3), .second, .val (.long q4), .second, .val (.long q5), .second, .val (.long q4), .second, .val (.long q5), .second, .unset, .unset, .unset, .unset, .unset, .unset, .unset] [(.long q4)])) (fun _ k => XS.lload X0.here hx rfl (hb hby at_8) rfl k) ?_
  refine Dn.by (U' := s₁.setTop (mkF m 12 #[.val (.long q0), .second, .val (.long q1), .second, .val (.long q2), .second, .val (.long q3), .second, .val (.long q4), .second, .val (.long q5), .second, .val (.long q4), .second, .val (.long q5), .second, .unset, .unset, .unset, .unset, .unset, .unset, .unset] [(.long q5), (.long q4)])) (fun _ k => XS.lload X0.here hx rfl (hb hby at_10) rfl k) ?_
  refine Dn.by (U' := s₁.setTop (mkF m 13 #[.val (.long q0), .second, .val (.long q1), .second, .val (.long q2), .second, .val (.long q3), .second, .val (.long q4), .second, .val (.long q5), .second, .val (.long q4), .second, .val (.long q5), .second, .unset, .unset, .unset, .unset, .unset, .unset, .unset] [(.long (q4 ^^^ q5))])) (fun _ k => XS.lxor X0.here hx rfl (hb hby at_12) rfl k) ?_
  refine Dn.by (U' := s₁.setTop (mkF m 15 #[.val (.long q0), .second, .val (.long q1), .second, .val (.long q2), .second, .val (.long q3), .second, .val (.long q4), .second, .val (.long q5), .second, .val (.long q4), .second, .val (.long q5), .second, .val (.long (q4 ^^^ q5)), .second, .unset, .unset, .unset, .unset, .unset] [])) (fun _ k => XS.lstore X0.here hx rfl (hb hby at_13) rfl (l' := #[.val (.long q0), .second, .val (.long q1), .second, .val (.long q2), .second, .val (.long q3), .second, .val (.long q4), .second, .val (.long q5), .second, .val (.long q4), .second, .val (.long q5), .second, .val (.long (q4 ^^^ q5)), .second, .unset, .unset, .unset, .unset, .unset]) rfl k) ?_
  refine Dn.by (U' := s₁.setTop (mkF m 17 #[.val (.long q0), .second, .val (.long q1), .second, .val (.long q2), .second, .val (.long q3), .second, .val (.long q4), .second, .val (.long q5), .second, .val (.long q4), .second, .val (.long q5), .second, .val (.long (q4 ^^^ q5)), .second, .unset, .unset, .unset, .unset, .unset] [(.long q4)])) (fun _ k => XS.lload X0.here hx rfl (hb hby at_15) rfl k) ?_
  refine Dn.by (U' := s₁.setTop (mkF m 20 #[.val (.long q0), .second, .val (.long q1), .second, .val (.long q2), .second, .val (.long q3), .second, .val (.long q4), .second, .val (.long q5), .second, .val (.long q4), .second, .val (.long q5), .second, .val (.long (q4 ^^^ q5)), .second, .unset, .unset, .unset, .unset, .unset] [(.long (31 : Int64)), (.long q4)])) (X0.ldc2Long hx hown (mvT hZ (hw _ (List.mem_of_getElem? (i := 0) rfl))) (g := (mkF m 17 #[.val (.long q0), .second, .val (.long q1), .second, .val (.long q2), .second, .val (.long q3), .second, .val (.long q4), .second, .val (.long q5), .second, .val (.long q4), .second, .val (.long q5), .second, .val (.long (q4 ^^^ q5)), .second, .unset, .unset, .unset, .unset, .unset] [(.long q4)])) rfl (hb hby at_17)) ?_
  refine Dn.by (U' := s₁.setTop (mkF m 21 #[.val (.long q0), .second, .val (.long q1), .second, .val (.long q2), .second, .val (.long q3), .second, .val (.long q4), .second, .val (.long q5), .second, .val (.long q4), .second, .val (.long q5), .second, .val (.long (q4 ^^^ q5)), .second, .unset, .unset, .unset, .unset, .unset] [(.long (q4 * (31 : Int64)))])) (fun _ k => XS.lmul X0.here hx rfl (hb hby at_20) rfl k) ?_
  refine Dn.by (U' := s₁.setTop (mkF m 23 #[.val (.long q0), .second, .val (.long q1), .second, .val (.long q2), .second, .val (.long q3), .second, .val (.long q4), .second, .val (.long q5), .second, .val (.long q4), .second, .val (.long q5), .second, .val (.long (q4 ^^^ q5)), .second, .unset, .unset, .unset, .unset, .unset] [(.long q5), (.long (q4 * (31 : Int64)))])) (fun _ k => XS.lload X0.here hx rfl (hb hby at_21) rfl k) ?_
  refine Dn.by (U' := s₁.setTop (mkF m 24 #[.val (.long q0), .second, .val (.long q1), .second, .val (.long q2), .second, .val (.long q3), .second, .val (.long q4), .second, .val (.long q5), .second, .val (.long q4), .second, .val (.long q5), .second, .val (.long (q4 ^^^ q5)), .second, .unset, .unset, .unset, .unset, .unset] [(.long ((q4 * (31 : Int64)) - q5))])) (fun _ k => XS.lsub X0.here hx rfl (hb hby at_23) rfl k) ?_
  refine Dn.by (U' := s₁.setTop (mkF m 26 #[.val (.long q0), .second, .val (.long q1), .second, .val (.long q2), .second, .val (.long q3), .second, .val (.long q4), .second, .val (.long q5), .second, .val (.long q4), .second, .val (.long q5), .second, .val (.long (q4 ^^^ q5)), .second, .val (.long ((q4 * (31 : Int64)) - q5)), .second, .unset, .unset, .unset] [])) (fun _ k => XS.lstore X0.here hx rfl (hb hby at_24) rfl (l' := #[.val (.long q0), .second, .val (.long q1), .second, .val (.long q2), .second, .val (.long q3), .second, .val (.long q4), .second, .val (.long q5), .second, .val (.long q4), .second, .val (.long q5), .second, .val (.long (q4 ^^^ q5)), .second, .val (.long ((q4 * (31 : Int64)) - q5)), .second, .unset, .unset, .unset]) rfl k) ?_
  obtain ⟨T1, h1, X1, e1, E1, A1, D1, -, st1⟩ := newO X0 hx hZ hown (hw _ (List.mem_of_getElem? (i := 1) rfl)) (hw _ (List.mem_of_getElem? (i := 2) rfl)) (hw _ (List.mem_of_getElem? (i := 3) rfl)) e0 (g := (mkF m 26 #[.val (.long q0), .second, .val (.long q1), .second, .val (.long q2), .second, .val (.long q3), .second, .val (.long q4), .second, .val (.long q5), .second, .val (.long q4), .second, .val (.long q5), .second, .val (.long (q4 ^^^ q5)), .second, .val (.long ((q4 * (31 : Int64)) - q5)), .second, .unset, .unset, .unset] [])) rfl (hb hby at_26) (by decide) (by decide)
  obtain ⟨b1, g1⟩ : ∃ z, z = h0.size := ⟨_, rfl⟩
  rw [← g1] at A1 D1 st1
  have g_b1 : n0 ≤ b1 := Nat.le_trans Z0 (Nat.le_of_eq g1.symm)
  have sz_b1 : h0.size ≤ b1 := Nat.le_trans (Keep.refl h0 []).1 (Nat.le_of_eq g1.symm)
  have K2 : Keep h0 h1 [] := ((Keep.refl h0 []).ext E1)
  have z2 : n0 ≤ h1.size := (Nat.le_trans Z0 E1.1)
  have F_retries_b1 : Fld Z h1 b1 "com/example/weaverbird/weaverbird/model/RetryCounts" "retries" "J" (.long (0 : Int64)) := D1 (Or.inr (hw _ (List.mem_of_getElem? (i := 11) rfl))) (ty := .long) (by decide)
  have F_successes_b1 : Fld Z h1 b1 "com/example/weaverbird/weaverbird/model/RetryCounts" "successes" "J" (.long (0 : Int64)) := D1 (Or.inr (hw _ (List.mem_of_getElem? (i := 13) rfl))) (ty := .long) (by decide)
  have F_exhausted_b1 : Fld Z h1 b1 "com/example/weaverbird/weaverbird/model/RetryCounts" "exhausted" "J" (.long (0 : Int64)) := D1 (Or.inr (hw _ (List.mem_of_getElem? (i := 15) rfl))) (ty := .long) (by decide)
  have F_permanent_b1 : Fld Z h1 b1 "com/example/weaverbird/weaverbird/model/RetryCounts" "permanent" "J" (.long (0 : Int64)) := D1 (Or.inr (hw _ (List.mem_of_getElem? (i := 17) rfl))) (ty := .long) (by decide)
  refine Dn.by (U' := T1.setTop (mkF m 29 #[.val (.long q0), .second, .val (.long q1), .second, .val (.long q2), .second, .val (.long q3), .second, .val (.long q4), .second, .val (.long q5), .second, .val (.long q4), .second, .val (.long q5), .second, .val (.long (q4 ^^^ q5)), .second, .val (.long ((q4 * (31 : Int64)) - q5)), .second, .unset, .unset, .unset] [(.ref b1)])) st1 ?_
  refine Dn.by (U' := T1.setTop (mkF m 30 #[.val (.long q0), .second, .val (.long q1), .second, .val (.long q2), .second, .val (.long q3), .second, .val (.long q4), .second, .val (.long q5), .second, .val (.long q4), .second, .val (.long q5), .second, .val (.long (q4 ^^^ q5)), .second, .val (.long ((q4 * (31 : Int64)) - q5)), .second, .unset, .unset, .unset] [(.ref b1), (.ref b1)])) (fun _ k => XS.dup X1.here hx rfl (hb hby at_29) rfl rfl k) ?_
  refine Dn.by (U' := T1.setTop (mkF m 31 #[.val (.long q0), .second, .val (.long q1), .second, .val (.long q2), .second, .val (.long q3), .second, .val (.long q4), .second, .val (.long q5), .second, .val (.long q4), .second, .val (.long q5), .second, .val (.long (q4 ^^^ q5)), .second, .val (.long ((q4 * (31 : Int64)) - q5)), .second, .unset, .unset, .unset] [(.long q0), (.ref b1), (.ref b1)])) (fun _ k => XS.lloadN X1.here hx rfl (hb hby at_30) rfl k) ?_
  refine Dn.by (U' := T1.setTop (mkF m 32 #[.val (.long q0), .second, .val (.long q1), .second, .val (.long q2), .second, .val (.long q3), .second, .val (.long q4), .second, .val (.long q5), .second, .val (.long q4), .second, .val (.long q5), .second, .val (.long (q4 ^^^ q5)), .second, .val (.long ((q4 * (31 : Int64)) - q5)), .second, .unset, .unset, .unset] [(.long q1), (.long q0), (.ref b1), (.ref b1)])) (fun _ k => XS.lloadN X1.here hx rfl (hb hby at_31) rfl k) ?_
  refine Dn.by (U' := T1.setTop (mkF m 34 #[.val (.long q0), .second, .val (.long q1), .second, .val (.long q2), .second, .val (.long q3), .second, .val (.long q4), .second, .val (.long q5), .second, .val (.long q4), .second, .val (.long q5), .second, .val (.long (q4 ^^^ q5)), .second, .val (.long ((q4 * (31 : Int64)) - q5)), .second, .unset, .unset, .unset] [(.long q2), (.long q1), (.long q0), (.ref b1), (.ref b1)])) (fun _ k => XS.lload X1.here hx rfl (hb hby at_32) rfl k) ?_
  refine Dn.by (U' := T1.setTop (mkF m 36 #[.val (.long q0), .second, .val (.long q1), .second, .val (.long q2), .second, .val (.long q3), .second, .val (.long q4), .second, .val (.long q5), .second, .val (.long q4), .second, .val (.long q5), .second, .val (.long (q4 ^^^ q5)), .second, .val (.long ((q4 * (31 : Int64)) - q5)), .second, .unset, .unset, .unset] [(.long q3), (.long q2), (.long q1), (.long q0), (.ref b1), (.ref b1)])) (fun _ k => XS.lload X1.here hx rfl (hb hby at_34) rfl k) ?_
  obtain ⟨_, _, ⟨T3, L3, k3, n3⟩, -, X3, ⟨Lc3, hQ3, l3, y3, z3⟩, st3⟩ := X1.specialBack hx (y := (⟨"com/example/weaverbird/weaverbird/model/RetryCounts", "<init>", "(JJJJ)V"⟩ : MethodName)) rfl hown (mvT hZ (hw _ (List.mem_of_getElem? (i := 4) rfl))) (mvT hZ (hw _ (List.mem_of_getElem? (i := 5) rfl))) (mvT hZ (hw _ (List.mem_of_getElem? (i := 6) rfl))) (by decide) (backOf (W := 1) (rm1 l Z a0 hw [] b1 q0 q1 q2 q3 ((.long (0 : Int64)) : Value) ((.long (0 : Int64)) : Value) ((.long (0 : Int64)) : Value) ((.long (0 : Int64)) : Value) h1 n0 z2 g_b1 A1 F_retries_b1 F_successes_b1 F_exhausted_b1 F_permanent_b1) hZ (hw _ (List.mem_of_getElem? (i := 6) rfl)) (hw _ (List.mem_of_getElem? (i := 3) rfl)) (by decide) (by decide)) (g := (mkF m 36 #[.val (.long q0), .second, .val (.long q1), .second, .val (.long q2), .second, .val (.long q3), .second, .val (.long q4), .second, .val (.long q5), .second, .val (.long q4), .second, .val (.long q5), .second, .val (.long (q4 ^^^ q5)), .second, .val (.long ((q4 * (31 : Int64)) - q5)), .second, .unset, .unset, .unset] [(.long q3), (.long q2), (.long q1), (.long q0), (.ref b1), (.ref b1)])) rfl (by rw [hml]; rfl) (Steps.refl _) (a := b1) (argsL := [(.long q0), (.long q1), (.long q2), (.long q3)]) (rest := [(.ref b1)]) (lenOf pd0 rfl) rfl (by show 2 * 0 + _ ≤ _; exact Nat.le_of_eq rfl) (hb hby at_36) (fun _ _ => ⟨rfl, e1, (by decide : 1 + 0 ≤ _), (by decide : 4 + 0 ≤ _)⟩)
  dsimp only [Pt.U, Pt.locs, Pt.cells, Pt.slots] at X3 l3 y3 z3 st3 hQ3
  subst l3 y3 z3
  obtain ⟨rfl, N3q, KK3, EE3, FF3_0, FF3_1, FF3_2, FF3_3⟩ := hQ3
  have N3 := Fr.app N0 N3q
  have K4 : Keep h0 T3.heap [] := (K2.trans KK3 (allS (Or.inr sz_b1) all0))
  have z4 : n0 ≤ T3.heap.size := (Nat.le_trans z2 KK3.1)
  refine Dn.by (U' := T3.setTop (mkF m 39 #[.val (.long q0), .second, .val (.long q1), .second, .val (.long q2), .second, .val (.long q3), .second, .val (.long q4), .second, .val (.long q5), .second, .val (.long q4), .second, .val (.long q5), .second, .val (.long (q4 ^^^ q5)), .second, .val (.long ((q4 * (31 : Int64)) - q5)), .second, .unset, .unset, .unset] [(.ref b1)])) (fun _ k => st3.trans k) ?_
  refine Dn.by (U' := T3.setTop (mkF m 41 #[.val (.long q0), .second, .val (.long q1), .second, .val (.long q2), .second, .val (.long q3), .second, .val (.long q4), .second, .val (.long q5), .second, .val (.long q4), .second, .val (.long q5), .second, .val (.long (q4 ^^^ q5)), .second, .val (.long ((q4 * (31 : Int64)) - q5)), .second, .val (.ref b1), .unset, .unset] [])) (fun _ k => XS.astore X3.here hx rfl (hb hby at_39) rfl rfl (l' := #[.val (.long q0), .second, .val (.long q1), .second, .val (.long q2), .second, .val (.long q3), .second, .val (.long q4), .second, .val (.long q5), .second, .val (.long q4), .second, .val (.long q5), .second, .val (.long (q4 ^^^ q5)), .second, .val (.long ((q4 * (31 : Int64)) - q5)), .second, .val (.ref b1), .unset, .unset]) rfl k) ?_
  obtain ⟨T5, h5, X5, e5, E5, A5, D5, -, st5⟩ := newO X3 hx hZ hown (hw _ (List.mem_of_getElem? (i := 1) rfl)) (hw _ (List.mem_of_getElem? (i := 2) rfl)) (hw _ (List.mem_of_getElem? (i := 3) rfl)) rfl (g := (mkF m 41 #[.val (.long q0), .second, .val (.long q1), .second, .val (.long q2), .second, .val (.long q3), .second, .val (.long q4), .second, .val (.long q5), .second, .val (.long q4), .second, .val (.long q5), .second, .val (.long (q4 ^^^ q5)), .second, .val (.long ((q4 * (31 : Int64)) - q5)), .second, .val (.ref b1), .unset, .unset] [])) rfl (hb hby at_41) (by decide) (by decide)
  obtain ⟨b5, g5⟩ : ∃ z, z = T3.heap.size := ⟨_, rfl⟩
  rw [← g5] at A5 D5 st5
  have g_b5 : n0 ≤ b5 := Nat.le_trans z4 (Nat.le_of_eq g5.symm)
  have sz_b5 : h0.size ≤ b5 := Nat.le_trans K4.1 (Nat.le_of_eq g5.symm)
  have ne_b1_b5 : b1 ≠ b5 := Nat.ne_of_lt (Nat.lt_of_lt_of_le (A1.keep KK3).lt (Nat.le_of_eq g5.symm))
  have K6 : Keep h0 h5 [] := (K4.ext E5)
  have z6 : n0 ≤ h5.size := (Nat.le_trans z4 E5.1)
  have F_retries_b5 : Fld Z h5 b5 "com/example/weaverbird/weaverbird/model/RetryCounts" "retries" "J" (.long (0 : Int64)) := D5 (Or.inr (hw _ (List.mem_of_getElem? (i := 11) rfl))) (ty := .long) (by decide)
  have F_successes_b5 : Fld Z h5 b5 "com/example/weaverbird/weaverbird/model/RetryCounts" "successes" "J" (.long (0 : Int64)) := D5 (Or.inr (hw _ (List.mem_of_getElem? (i := 13) rfl))) (ty := .long) (by decide)
  have F_exhausted_b5 : Fld Z h5 b5 "com/example/weaverbird/weaverbird/model/RetryCounts" "exhausted" "J" (.long (0 : Int64)) := D5 (Or.inr (hw _ (List.mem_of_getElem? (i := 15) rfl))) (ty := .long) (by decide)
  have F_permanent_b5 : Fld Z h5 b5 "com/example/weaverbird/weaverbird/model/RetryCounts" "permanent" "J" (.long (0 : Int64)) := D5 (Or.inr (hw _ (List.mem_of_getElem? (i := 17) rfl))) (ty := .long) (by decide)
  refine Dn.by (U' := T5.setTop (mkF m 44 #[.val (.long q0), .second, .val (.long q1), .second, .val (.long q2), .second, .val (.long q3), .second, .val (.long q4), .second, .val (.long q5), .second, .val (.long q4), .second, .val (.long q5), .second, .val (.long (q4 ^^^ q5)), .second, .val (.long ((q4 * (31 : Int64)) - q5)), .second, .val (.ref b1), .unset, .unset] [(.ref b5)])) st5 ?_
  refine Dn.by (U' := T5.setTop (mkF m 45 #[.val (.long q0), .second, .val (.long q1), .second, .val (.long q2), .second, .val (.long q3), .second, .val (.long q4), .second, .val (.long q5), .second, .val (.long q4), .second, .val (.long q5), .second, .val (.long (q4 ^^^ q5)), .second, .val (.long ((q4 * (31 : Int64)) - q5)), .second, .val (.ref b1), .unset, .unset] [(.ref b5), (.ref b5)])) (fun _ k => XS.dup X5.here hx rfl (hb hby at_44) rfl rfl k) ?_
  refine Dn.by (U' := T5.setTop (mkF m 47 #[.val (.long q0), .second, .val (.long q1), .second, .val (.long q2), .second, .val (.long q3), .second, .val (.long q4), .second, .val (.long q5), .second, .val (.long q4), .second, .val (.long q5), .second, .val (.long (q4 ^^^ q5)), .second, .val (.long ((q4 * (31 : Int64)) - q5)), .second, .val (.ref b1), .unset, .unset] [(.long q4), (.ref b5), (.ref b5)])) (fun _ k => XS.lload X5.here hx rfl (hb hby at_45) rfl k) ?_
  refine Dn.by (U' := T5.setTop (mkF m 49 #[.val (.long q0), .second, .val (.long q1), .second, .val (.long q2), .second, .val (.long q3), .second, .val (.long q4), .second, .val (.long q5), .second, .val (.long q4), .second, .val (.long q5), .second, .val (.long (q4 ^^^ q5)), .second, .val (.long ((q4 * (31 : Int64)) - q5)), .second, .val (.ref b1), .unset, .unset] [(.long q5), (.long q4), (.ref b5), (.ref b5)])) (fun _ k => XS.lload X5.here hx rfl (hb hby at_47) rfl k) ?_
  refine Dn.by (U' := T5.setTop (mkF m 51 #[.val (.long q0), .second, .val (.long q1), .second, .val (.long q2), .second, .val (.long q3), .second, .val (.long q4), .second, .val (.long q5), .second, .val (.long q4), .second, .val (.long q5), .second, .val (.long (q4 ^^^ q5)), .second, .val (.long ((q4 * (31 : Int64)) - q5)), .second, .val (.ref b1), .unset, .unset] [(.long (q4 ^^^ q5)), (.long q5), (.long q4), (.ref b5), (.ref b5)])) (fun _ k => XS.lload X5.here hx rfl (hb hby at_49) rfl k) ?_
  refine Dn.by (U' := T5.setTop (mkF m 53 #[.val (.long q0), .second, .val (.long q1), .second, .val (.long q2), .second, .val (.long q3), .second, .val (.long q4), .second, .val (.long q5), .second, .val (.long q4), .second, .val (.long q5), .second, .val (.long (q4 ^^^ q5)), .second, .val (.long ((q4 * (31 : Int64)) - q5)), .second, .val (.ref b1), .unset, .unset] [(.long ((q4 * (31 : Int64)) - q5)), (.long (q4 ^^^ q5)), (.long q5), (.long q4), (.ref b5), (.ref b5)])) (fun _ k => XS.lload X5.here hx rfl (hb hby at_51) rfl k) ?_
  obtain ⟨_, _, ⟨T7, L7, k7, n7⟩, -, X7, ⟨Lc7, hQ7, l7, y7, z7⟩, st7⟩ := X5.specialBack hx (y := (⟨"com/example/weaverbird/weaverbird/model/RetryCounts", "<init>", "(JJJJ)V"⟩ : MethodName)) rfl hown (mvT hZ (hw _ (List.mem_of_getElem? (i := 4) rfl))) (mvT hZ (hw _ (List.mem_of_getElem? (i := 5) rfl))) (mvT hZ (hw _ (List.mem_of_getElem? (i := 6) rfl))) (by decide) (backOf (W := 1) (rm1 l Z a0 hw [] b5 q4 q5 (q4 ^^^ q5) ((q4 * (31 : Int64)) - q5) ((.long (0 : Int64)) : Value) ((.long (0 : Int64)) : Value) ((.long (0 : Int64)) : Value) ((.long (0 : Int64)) : Value) h5 n0 z6 g_b5 A5 F_retries_b5 F_successes_b5 F_exhausted_b5 F_permanent_b5) hZ (hw _ (List.mem_of_getElem? (i := 6) rfl)) (hw _ (List.mem_of_getElem? (i := 3) rfl)) (by decide) (by decide)) (g := (mkF m 53 #[.val (.long q0), .second, .val (.long q1), .second, .val (.long q2), .second, .val (.long q3), .second, .val (.long q4), .second, .val (.long q5), .second, .val (.long q4), .second, .val (.long q5), .second, .val (.long (q4 ^^^ q5)), .second, .val (.long ((q4 * (31 : Int64)) - q5)), .second, .val (.ref b1), .unset, .unset] [(.long ((q4 * (31 : Int64)) - q5)), (.long (q4 ^^^ q5)), (.long q5), (.long q4), (.ref b5), (.ref b5)])) rfl (by rw [hml]; rfl) (Steps.refl _) (a := b5) (argsL := [(.long q4), (.long q5), (.long (q4 ^^^ q5)), (.long ((q4 * (31 : Int64)) - q5))]) (rest := [(.ref b5)]) (lenOf pd0 rfl) rfl (by show 2 * 0 + _ ≤ _; exact Nat.le_of_eq rfl) (hb hby at_53) (fun _ _ => ⟨rfl, e5, (by decide : 2 + 0 ≤ _), (by decide : 8 + 0 ≤ _)⟩)
  dsimp only [Pt.U, Pt.locs, Pt.cells, Pt.slots] at X7 l7 y7 z7 st7 hQ7
  subst l7 y7 z7
  obtain ⟨rfl, N7q, KK7, EE7, FF7_0, FF7_1, FF7_2, FF7_3⟩ := hQ7
  have N7 := Fr.app N3 N7q
  have K8 : Keep h0 T7.heap [] := (K6.trans KK7 (allS (Or.inr sz_b5) all0))
  have z8 : n0 ≤ T7.heap.size := (Nat.le_trans z6 KK7.1)
  refine Dn.by (U' := T7.setTop (mkF m 56 #[.val (.long q0), .second, .val (.long q1), .second, .val (.long q2), .second, .val (.long q3), .second, .val (.long q4), .second, .val (.long q5), .second, .val (.long q4), .second, .val (.long q5), .second, .val (.long (q4 ^^^ q5)), .second, .val (.long ((q4 * (31 : Int64)) - q5)), .second, .val (.ref b1), .unset, .unset] [(.ref b5)])) (fun _ k => st7.trans k) ?_
  refine Dn.by (U' := T7.setTop (mkF m 58 #[.val (.long q0), .second, .val (.long q1), .second, .val (.long q2), .second, .val (.long q3), .second, .val (.long q4), .second, .val (.long q5), .second, .val (.long q4), .second, .val (.long q5), .second, .val (.long (q4 ^^^ q5)), .second, .val (.long ((q4 * (31 : Int64)) - q5)), .second, .val (.ref b1), .val (.ref b5), .unset] [])) (fun _ k => XS.astore X7.here hx rfl (hb hby at_56) rfl rfl (l' := #[.val (.long q0), .second, .val (.long q1), .second, .val (.long q2), .second, .val (.long q3), .second, .val (.long q4), .second, .val (.long q5), .second, .val (.long q4), .second, .val (.long q5), .second, .val (.long (q4 ^^^ q5)), .second, .val (.long ((q4 * (31 : Int64)) - q5)), .second, .val (.ref b1), .val (.ref b5), .unset]) rfl k) ?_
  refine Dn.by (U' := T7.setTop (mkF m 60 #[.val (.long q0), .second, .val (.long q1), .second, .val (.long q2), .second, .val (.long q3), .second, .val (.long q4), .second, .val (.long q5), .second, .val (.long q4), .second, .val (.long q5), .second, .val (.long (q4 ^^^ q5)), .second, .val (.long ((q4 * (31 : Int64)) - q5)), .second, .val (.ref b1), .val (.ref b5), .unset] [(.ref b1)])) (fun _ k => XS.aload X7.here hx rfl (hb hby at_58) rfl rfl k) ?_
  refine Dn.by (U' := T7.setTop (mkF m 62 #[.val (.long q0), .second, .val (.long q1), .second, .val (.long q2), .second, .val (.long q3), .second, .val (.long q4), .second, .val (.long q5), .second, .val (.long q4), .second, .val (.long q5), .second, .val (.long (q4 ^^^ q5)), .second, .val (.long ((q4 * (31 : Int64)) - q5)), .second, .val (.ref b1), .val (.ref b5), .unset] [(.ref b5), (.ref b1)])) (fun _ k => XS.aload X7.here hx rfl (hb hby at_60) rfl rfl k) ?_
  obtain ⟨cq9, kq9, qa9, qb9, qc9⟩ := isOf hZ rfl (((A1.keep KK3).ext E5).keep KK7)
  obtain ⟨_, _, ⟨T9, L9, k9, n9⟩, -, X9, ⟨Lc9, hQ9, l9, y9, z9⟩, st9⟩ := X7.virtualBack hx (y := (⟨"com/example/weaverbird/weaverbird/model/RetryCounts", "plus", "(Lcom/example/weaverbird/weaverbird/model/RetryCounts;)Lcom/example/weaverbird/weaverbird/model/RetryCounts;"⟩ : MethodName)) (z := (⟨"com/example/weaverbird/weaverbird/model/RetryCounts", "plus", "(Lcom/example/weaverbird/weaverbird/model/RetryCounts;)Lcom/example/weaverbird/weaverbird/model/RetryCounts;"⟩ : MethodName)) hown (mvT hZ (hw _ (List.mem_of_getElem? (i := 18) rfl))) (mvT hZ (hw _ (List.mem_of_getElem? (i := 19) rfl))) (notFace_of_selects (args := #[]) (mvT hZ (hw _ (List.mem_of_getElem? (i := 21) rfl)))) (mvT hZ (hw _ (List.mem_of_getElem? (i := 21) rfl))) (mvT hZ (hw _ (List.mem_of_getElem? (i := 20) rfl))) (by decide) (backOf (W := 0) (rm3 l Z a0 hw [] b1 b5 q0 q1 q2 q3 q4 q5 (q4 ^^^ q5) ((q4 * (31 : Int64)) - q5) T7.heap n0 z8 ((FF3_0.ext E5).keep KK7 (ninS ne_b1_b5 nin0)) ((FF3_1.ext E5).keep KK7 (ninS ne_b1_b5 nin0)) ((FF3_2.ext E5).keep KK7 (ninS ne_b1_b5 nin0)) ((FF3_3.ext E5).keep KK7 (ninS ne_b1_b5 nin0)) FF7_0 FF7_1 FF7_2 FF7_3) hZ (hw _ (List.mem_of_getElem? (i := 22) rfl)) (hw _ (List.mem_of_getElem? (i := 3) rfl)) (by decide) (by decide)) qa9 qc9 (g := (mkF m 62 #[.val (.long q0), .second, .val (.long q1), .second, .val (.long q2), .second, .val (.long q3), .second, .val (.long q4), .second, .val (.long q5), .second, .val (.long q4), .second, .val (.long q5), .second, .val (.long (q4 ^^^ q5)), .second, .val (.long ((q4 * (31 : Int64)) - q5)), .second, .val (.ref b1), .val (.ref b5), .unset] [(.ref b5), (.ref b1)])) rfl (by rw [hml]; rfl) (Steps.refl _) (argsL := [(.ref b5)]) (rest := []) (lenOf pd1 rfl) rfl (by show 2 * 0 + _ ≤ _; exact Nat.le_of_eq rfl) (hb hby at_62) (fun _ _ => ⟨rfl, rfl, (by decide : 2 + 1 ≤ _), (by decide : 8 + 4 ≤ _)⟩)
  dsimp only [Pt.U, Pt.locs, Pt.cells, Pt.slots] at X9 l9 y9 z9 st9 hQ9
  subst l9 y9 z9
  obtain ⟨b9, rfl, N9q, zz9, KK9, EE9, FF9_0, FF9_1, FF9_2, FF9_3⟩ := hQ9
  have N9 := Fr.app N7 N9q
  have g_b9 : n0 ≤ b9 := Nat.le_trans z8 zz9
  have sz_b9 : h0.size ≤ b9 := Nat.le_trans K8.1 zz9
  have ne_b1_b9 : b1 ≠ b9 := Nat.ne_of_lt (Nat.lt_of_lt_of_le (((A1.keep KK3).ext E5).keep KK7).lt zz9)
  have ne_b5_b9 : b5 ≠ b9 := Nat.ne_of_lt (Nat.lt_of_lt_of_le (A5.keep KK7).lt zz9)
  have K10 : Keep h0 T9.heap [] := (K8.trans KK9 all0)
  have z10 : n0 ≤ T9.heap.size := (Nat.le_trans z8 KK9.1)
  refine Dn.by (U' := T9.setTop (mkF m 65 #[.val (.long q0), .second, .val (.long q1), .second, .val (.long q2), .second, .val (.long q3), .second, .val (.long q4), .second, .val (.long q5), .second, .val (.long q4), .second, .val (.long q5), .second, .val (.long (q4 ^^^ q5)), .second, .val (.long ((q4 * (31 : Int64)) - q5)), .second, .val (.ref b1), .val (.ref b5), .unset] [(.ref b9)])) (fun _ k => st9.trans k) ?_
  refine Dn.by (U' := T9.setTop (mkF m 67 #[.val (.long q0), .second, .val (.long q1), .second, .val (.long q2), .second, .val (.long q3), .second, .val (.long q4), .second, .val (.long q5), .second, .val (.long q4), .second, .val (.long q5), .second, .val (.long (q4 ^^^ q5)), .second, .val (.long ((q4 * (31 : Int64)) - q5)), .second, .val (.ref b1), .val (.ref b5), .val (.ref b9)] [])) (fun _ k => XS.astore X9.here hx rfl (hb hby at_65) rfl rfl (l' := #[.val (.long q0), .second, .val (.long q1), .second, .val (.long q2), .second, .val (.long q3), .second, .val (.long q4), .second, .val (.long q5), .second, .val (.long q4), .second, .val (.long q5), .second, .val (.long (q4 ^^^ q5)), .second, .val (.long ((q4 * (31 : Int64)) - q5)), .second, .val (.ref b1), .val (.ref b5), .val (.ref b9)]) rfl k) ?_
  refine Dn.by (U' := T9.setTop (mkF m 69 #[.val (.long q0), .second, .val (.long q1), .second, .val (.long q2), .second, .val (.long q3), .second, .val (.long q4), .second, .val (.long q5), .second, .val (.long q4), .second, .val (.long q5), .second, .val (.long (q4 ^^^ q5)), .second, .val (.long ((q4 * (31 : Int64)) - q5)), .second, .val (.ref b1), .val (.ref b5), .val (.ref b9)] [(.ref b9)])) (fun _ k => XS.aload X9.here hx rfl (hb hby at_67) rfl rfl k) ?_
  obtain ⟨cq11, kq11, qa11, qb11, qc11⟩ := isOf hZ rfl EE9
  obtain ⟨_, _, ⟨T11, L11, k11, n11⟩, -, X11, ⟨Lc11, hQ11, l11, y11, z11⟩, st11⟩ := X9.virtualBack hx (y := (⟨"com/example/weaverbird/weaverbird/model/RetryCounts", "retries", "()J"⟩ : MethodName)) (z := (⟨"com/example/weaverbird/weaverbird/model/RetryCounts", "retries", "()J"⟩ : MethodName)) hown (mvT hZ (hw _ (List.mem_of_getElem? (i := 25) rfl))) (mvT hZ (hw _ (List.mem_of_getElem? (i := 26) rfl))) (notFace_of_selects (args := #[]) (mvT hZ (hw _ (List.mem_of_getElem? (i := 28) rfl)))) (mvT hZ (hw _ (List.mem_of_getElem? (i := 28) rfl))) (mvT hZ (hw _ (List.mem_of_getElem? (i := 27) rfl))) (by decide) (backOf (W := 0) (rm4 l Z a0 hw [] b9 (q0 + q4) T9.heap n0 z10 FF9_0) hZ (hw _ (List.mem_of_getElem? (i := 29) rfl)) (hw _ (List.mem_of_getElem? (i := 3) rfl)) (by decide) (by decide)) qa11 qc11 (g := (mkF m 69 #[.val (.long q0), .second, .val (.long q1), .second, .val (.long q2), .second, .val (.long q3), .second, .val (.long q4), .second, .val (.long q5), .second, .val (.long q4), .second, .val (.long q5), .second, .val (.long (q4 ^^^ q5)), .second, .val (.long ((q4 * (31 : Int64)) - q5)), .second, .val (.ref b1), .val (.ref b5), .val (.ref b9)] [(.ref b9)])) rfl (by rw [hml]; rfl) (Steps.refl _) (argsL := []) (rest := []) (lenOf pd2 rfl) rfl (by show 2 * 0 + _ ≤ _; exact Nat.le_of_eq rfl) (hb hby at_69) (fun _ _ => ⟨rfl, rfl, (by decide : 3 + 0 ≤ _), (by decide : 12 + 0 ≤ _)⟩)
  dsimp only [Pt.U, Pt.locs, Pt.cells, Pt.slots] at X11 l11 y11 z11 st11 hQ11
  subst l11 y11 z11
  obtain ⟨rfl, N11q, e11⟩ := hQ11
  have N11 := Fr.app N9 N11q
  refine Dn.by (U' := T11.setTop (mkF m 72 #[.val (.long q0), .second, .val (.long q1), .second, .val (.long q2), .second, .val (.long q3), .second, .val (.long q4), .second, .val (.long q5), .second, .val (.long q4), .second, .val (.long q5), .second, .val (.long (q4 ^^^ q5)), .second, .val (.long ((q4 * (31 : Int64)) - q5)), .second, .val (.ref b1), .val (.ref b5), .val (.ref b9)] [(.long (q0 + q4))])) (fun _ k => st11.trans k) ?_
  refine Dn.by (U' := T11.setTop (mkF m 73 #[.val (.long q0), .second, .val (.long q1), .second, .val (.long q2), .second, .val (.long q3), .second, .val (.long q4), .second, .val (.long q5), .second, .val (.long q4), .second, .val (.long q5), .second, .val (.long (q4 ^^^ q5)), .second, .val (.long ((q4 * (31 : Int64)) - q5)), .second, .val (.ref b1), .val (.ref b5), .val (.ref b9)] [(.long q0), (.long (q0 + q4))])) (fun _ k => XS.lloadN X11.here hx rfl (hb hby at_72) rfl k) ?_
  refine Dn.by (U' := T11.setTop (mkF m 75 #[.val (.long q0), .second, .val (.long q1), .second, .val (.long q2), .second, .val (.long q3), .second, .val (.long q4), .second, .val (.long q5), .second, .val (.long q4), .second, .val (.long q5), .second, .val (.long (q4 ^^^ q5)), .second, .val (.long ((q4 * (31 : Int64)) - q5)), .second, .val (.ref b1), .val (.ref b5), .val (.ref b9)] [(.long q4), (.long q0), (.long (q0 + q4))])) (fun _ k => XS.lload X11.here hx rfl (hb hby at_73) rfl k) ?_
  refine Dn.by (U' := T11.setTop (mkF m 76 #[.val (.long q0), .second, .val (.long q1), .second, .val (.long q2), .second, .val (.long q3), .second, .val (.long q4), .second, .val (.long q5), .second, .val (.long q4), .second, .val (.long q5), .second, .val (.long (q4 ^^^ q5)), .second, .val (.long ((q4 * (31 : Int64)) - q5)), .second, .val (.ref b1), .val (.ref b5), .val (.ref b9)] [(.long (q0 + q4)), (.long (q0 + q4))])) (fun _ k => XS.ladd X11.here hx rfl (hb hby at_75) rfl k) ?_
  refine Dn.by (U' := T11.setTop (mkF m 77 #[.val (.long q0), .second, .val (.long q1), .second, .val (.long q2), .second, .val (.long q3), .second, .val (.long q4), .second, .val (.long q5), .second, .val (.long q4), .second, .val (.long q5), .second, .val (.long (q4 ^^^ q5)), .second, .val (.long ((q4 * (31 : Int64)) - q5)), .second, .val (.ref b1), .val (.ref b5), .val (.ref b9)] [(.int (lcmpW (q0 + q4) (q0 + q4)))])) (fun _ k => XS.lcmp X11.here hx rfl (hb hby at_76) rfl k) ?_
  refine Dn.by (U' := T11.setTop (mkF m 80 #[.val (.long q0), .second, .val (.long q1), .second, .val (.long q2), .second, .val (.long q3), .second, .val (.long q4), .second, .val (.long q5), .second, .val (.long q4), .second, .val (.long q5), .second, .val (.long (q4 ^^^ q5)), .second, .val (.long ((q4 * (31 : Int64)) - q5)), .second, .val (.ref b1), .val (.ref b5), .val (.ref b9)] [])) (fun _ k => XS.ifNo X11.here hx rfl (hb hby at_77) rfl ((if0 _ _).trans (teq ((lw_eq _ _).mpr rfl)).2) k) ?_
  refine Dn.by (U' := T11.setTop (mkF m 82 #[.val (.long q0), .second, .val (.long q1), .second, .val (.long q2), .second, .val (.long q3), .second, .val (.long q4), .second, .val (.long q5), .second, .val (.long q4), .second, .val (.long q5), .second, .val (.long (q4 ^^^ q5)), .second, .val (.long ((q4 * (31 : Int64)) - q5)), .second, .val (.ref b1), .val (.ref b5), .val (.ref b9)] [(.ref b9)])) (fun _ k => XS.aload X11.here hx rfl (hb hby at_80) rfl rfl k) ?_
  obtain ⟨cq12, kq12, qa12, qb12, qc12⟩ := isOf hZ e11 EE9
  obtain ⟨_, _, ⟨T12, L12, k12, n12⟩, -, X12, ⟨Lc12, hQ12, l12, y12, z12⟩, st12⟩ := X11.virtualBack hx (y := (⟨"com/example/weaverbird/weaverbird/model/RetryCounts", "successes", "()J"⟩ : MethodName)) (z := (⟨"com/example/weaverbird/weaverbird/model/RetryCounts", "successes", "()J"⟩ : MethodName)) hown (mvT hZ (hw _ (List.mem_of_getElem? (i := 30) rfl))) (mvT hZ (hw _ (List.mem_of_getElem? (i := 31) rfl))) (notFace_of_selects (args := #[]) (mvT hZ (hw _ (List.mem_of_getElem? (i := 33) rfl)))) (mvT hZ (hw _ (List.mem_of_getElem? (i := 33) rfl))) (mvT hZ (hw _ (List.mem_of_getElem? (i := 32) rfl))) (by decide) (backOf (W := 0) (rm5 l Z a0 hw [] b9 (q1 + q5) T9.heap n0 z10 FF9_1) hZ (hw _ (List.mem_of_getElem? (i := 34) rfl)) (hw _ (List.mem_of_getElem? (i := 3) rfl)) (by decide) (by decide)) qa12 qc12 (g := (mkF m 82 #[.val (.long q0), .second, .val (.long q1), .second, .val (.long q2), .second, .val (.long q3), .second, .val (.long q4), .second, .val (.long q5), .second, .val (.long q4), .second, .val (.long q5), .second, .val (.long (q4 ^^^ q5)), .second, .val (.long ((q4 * (31 : Int64)) - q5)), .second, .val (.ref b1), .val (.ref b5), .val (.ref b9)] [(.ref b9)])) rfl (by rw [hml]; rfl) (Steps.refl _) (argsL := []) (rest := []) (lenOf pd2 rfl) rfl (by show 2 * 0 + _ ≤ _; exact Nat.le_of_eq rfl) (hb hby at_82) (fun _ _ => ⟨rfl, e11, (by decide : 3 + 0 ≤ _), (by decide : 12 + 0 ≤ _)⟩)
  dsimp only [Pt.U, Pt.locs, Pt.cells, Pt.slots] at X12 l12 y12 z12 st12 hQ12
  subst l12 y12 z12
  obtain ⟨rfl, N12q, e12⟩ := hQ12
  have N12 := Fr.app N11 N12q
  refine Dn.by (U' := T12.setTop (mkF m 85 #[.val (.long q0), .second, .val (.long q1), .second, .val (.long q2), .second, .val (.long q3), .second, .val (.long q4), .second, .val (.long q5), .second, .val (.long q4), .second, .val (.long q5), .second, .val (.long (q4 ^^^ q5)), .second, .val (.long ((q4 * (31 : Int64)) - q5)), .second, .val (.ref b1), .val (.ref b5), .val (.ref b9)] [(.long (q1 + q5))])) (fun _ k => st12.trans k) ?_
  refine Dn.by (U' := T12.setTop (mkF m 86 #[.val (.long q0), .second, .val (.long q1), .second, .val (.long q2), .second, .val (.long q3), .second, .val (.long q4), .second, .val (.long q5), .second, .val (.long q4), .second, .val (.long q5), .second, .val (.long (q4 ^^^ q5)), .second, .val (.long ((q4 * (31 : Int64)) - q5)), .second, .val (.ref b1), .val (.ref b5), .val (.ref b9)] [(.long q1), (.long (q1 + q5))])) (fun _ k => XS.lloadN X12.here hx rfl (hb hby at_85) rfl k) ?_
  refine Dn.by (U' := T12.setTop (mkF m 88 #[.val (.long q0), .second, .val (.long q1), .second, .val (.long q2), .second, .val (.long q3), .second, .val (.long q4), .second, .val (.long q5), .second, .val (.long q4), .second, .val (.long q5), .second, .val (.long (q4 ^^^ q5)), .second, .val (.long ((q4 * (31 : Int64)) - q5)), .second, .val (.ref b1), .val (.ref b5), .val (.ref b9)] [(.long q5), (.long q1), (.long (q1 + q5))])) (fun _ k => XS.lload X12.here hx rfl (hb hby at_86) rfl k) ?_
  refine Dn.by (U' := T12.setTop (mkF m 89 #[.val (.long q0), .second, .val (.long q1), .second, .val (.long q2), .second, .val (.long q3), .second, .val (.long q4), .second, .val (.long q5), .second, .val (.long q4), .second, .val (.long q5), .second, .val (.long (q4 ^^^ q5)), .second, .val (.long ((q4 * (31 : Int64)) - q5)), .second, .val (.ref b1), .val (.ref b5), .val (.ref b9)] [(.long (q1 + q5)), (.long (q1 + q5))])) (fun _ k => XS.ladd X12.here hx rfl (hb hby at_88) rfl k) ?_
  refine Dn.by (U' := T12.setTop (mkF m 90 #[.val (.long q0), .second, .val (.long q1), .second, .val (.long q2), .second, .val (.long q3), .second, .val (.long q4), .second, .val (.long q5), .second, .val (.long q4), .second, .val (.long q5), .second, .val (.long (q4 ^^^ q5)), .second, .val (.long ((q4 * (31 : Int64)) - q5)), .second, .val (.ref b1), .val (.ref b5), .val (.ref b9)] [(.int (lcmpW (q1 + q5) (q1 + q5)))])) (fun _ k => XS.lcmp X12.here hx rfl (hb hby at_89) rfl k) ?_
  refine Dn.by (U' := T12.setTop (mkF m 93 #[.val (.long q0), .second, .val (.long q1), .second, .val (.long q2), .second, .val (.long q3), .second, .val (.long q4), .second, .val (.long q5), .second, .val (.long q4), .second, .val (.long q5), .second, .val (.long (q4 ^^^ q5)), .second, .val (.long ((q4 * (31 : Int64)) - q5)), .second, .val (.ref b1), .val (.ref b5), .val (.ref b9)] [])) (fun _ k => XS.ifNo X12.here hx rfl (hb hby at_90) rfl ((if0 _ _).trans (teq ((lw_eq _ _).mpr rfl)).2) k) ?_
  refine Dn.by (U' := T12.setTop (mkF m 95 #[.val (.long q0), .second, .val (.long q1), .second, .val (.long q2), .second, .val (.long q3), .second, .val (.long q4), .second, .val (.long q5), .second, .val (.long q4), .second, .val (.long q5), .second, .val (.long (q4 ^^^ q5)), .second, .val (.long ((q4 * (31 : Int64)) - q5)), .second, .val (.ref b1), .val (.ref b5), .val (.ref b9)] [(.ref b9)])) (fun _ k => XS.aload X12.here hx rfl (hb hby at_93) rfl rfl k) ?_
  obtain ⟨cq13, kq13, qa13, qb13, qc13⟩ := isOf hZ e12 EE9
  obtain ⟨_, _, ⟨T13, L13, k13, n13⟩, -, X13, ⟨Lc13, hQ13, l13, y13, z13⟩, st13⟩ := X12.virtualBack hx (y := (⟨"com/example/weaverbird/weaverbird/model/RetryCounts", "exhausted", "()J"⟩ : MethodName)) (z := (⟨"com/example/weaverbird/weaverbird/model/RetryCounts", "exhausted", "()J"⟩ : MethodName)) hown (mvT hZ (hw _ (List.mem_of_getElem? (i := 35) rfl))) (mvT hZ (hw _ (List.mem_of_getElem? (i := 36) rfl))) (notFace_of_selects (args := #[]) (mvT hZ (hw _ (List.mem_of_getElem? (i := 38) rfl)))) (mvT hZ (hw _ (List.mem_of_getElem? (i := 38) rfl))) (mvT hZ (hw _ (List.mem_of_getElem? (i := 37) rfl))) (by decide) (backOf (W := 0) (rm6 l Z a0 hw [] b9 (q2 + (q4 ^^^ q5)) T9.heap n0 z10 FF9_2) hZ (hw _ (List.mem_of_getElem? (i := 39) rfl)) (hw _ (List.mem_of_getElem? (i := 3) rfl)) (by decide) (by decide)) qa13 qc13 (g := (mkF m 95 #[.val (.long q0), .second, .val (.long q1), .second, .val (.long q2), .second, .val (.long q3), .second, .val (.long q4), .second, .val (.long q5), .second, .val (.long q4), .second, .val (.long q5), .second, .val (.long (q4 ^^^ q5)), .second, .val (.long ((q4 * (31 : Int64)) - q5)), .second, .val (.ref b1), .val (.ref b5), .val (.ref b9)] [(.ref b9)])) rfl (by rw [hml]; rfl) (Steps.refl _) (argsL := []) (rest := []) (lenOf pd2 rfl) rfl (by show 2 * 0 + _ ≤ _; exact Nat.le_of_eq rfl) (hb hby at_95) (fun _ _ => ⟨rfl, e12, (by decide : 3 + 0 ≤ _), (by decide : 12 + 0 ≤ _)⟩)
  dsimp only [Pt.U, Pt.locs, Pt.cells, Pt.slots] at X13 l13 y13 z13 st13 hQ13
  subst l13 y13 z13
  obtain ⟨rfl, N13q, e13⟩ := hQ13
  have N13 := Fr.app N12 N13q
  refine Dn.by (U' := T13.setTop (mkF m 98 #[.val (.long q0), .second, .val (.long q1), .second, .val (.long q2), .second, .val (.long q3), .second, .val (.long q4), .second, .val (.long q5), .second, .val (.long q4), .second, .val (.long q5), .second, .val (.long (q4 ^^^ q5)), .second, .val (.long ((q4 * (31 : Int64)) - q5)), .second, .val (.ref b1), .val (.ref b5), .val (.ref b9)] [(.long (q2 + (q4 ^^^ q5)))])) (fun _ k => st13.trans k) ?_
  refine Dn.by (U' := T13.setTop (mkF m 100 #[.val (.long q0), .second, .val (.long q1), .second, .val (.long q2), .second, .val (.long q3), .second, .val (.long q4), .second, .val (.long q5), .second, .val (.long q4), .second, .val (.long q5), .second, .val (.long (q4 ^^^ q5)), .second, .val (.long ((q4 * (31 : Int64)) - q5)), .second, .val (.ref b1), .val (.ref b5), .val (.ref b9)] [(.long q2), (.long (q2 + (q4 ^^^ q5)))])) (fun _ k => XS.lload X13.here hx rfl (hb hby at_98) rfl k) ?_
  refine Dn.by (U' := T13.setTop (mkF m 102 #[.val (.long q0), .second, .val (.long q1), .second, .val (.long q2), .second, .val (.long q3), .second, .val (.long q4), .second, .val (.long q5), .second, .val (.long q4), .second, .val (.long q5), .second, .val (.long (q4 ^^^ q5)), .second, .val (.long ((q4 * (31 : Int64)) - q5)), .second, .val (.ref b1), .val (.ref b5), .val (.ref b9)] [(.long (q4 ^^^ q5)), (.long q2), (.long (q2 + (q4 ^^^ q5)))])) (fun _ k => XS.lload X13.here hx rfl (hb hby at_100) rfl k) ?_
  refine Dn.by (U' := T13.setTop (mkF m 103 #[.val (.long q0), .second, .val (.long q1), .second, .val (.long q2), .second, .val (.long q3), .second, .val (.long q4), .second, .val (.long q5), .second, .val (.long q4), .second, .val (.long q5), .second, .val (.long (q4 ^^^ q5)), .second, .val (.long ((q4 * (31 : Int64)) - q5)), .second, .val (.ref b1), .val (.ref b5), .val (.ref b9)] [(.long (q2 + (q4 ^^^ q5))), (.long (q2 + (q4 ^^^ q5)))])) (fun _ k => XS.ladd X13.here hx rfl (hb hby at_102) rfl k) ?_
  refine Dn.by (U' := T13.setTop (mkF m 104 #[.val (.long q0), .second, .val (.long q1), .second, .val (.long q2), .second, .val (.long q3), .second, .val (.long q4), .second, .val (.long q5), .second, .val (.long q4), .second, .val (.long q5), .second, .val (.long (q4 ^^^ q5)), .second, .val (.long ((q4 * (31 : Int64)) - q5)), .second, .val (.ref b1), .val (.ref b5), .val (.ref b9)] [(.int (lcmpW (q2 + (q4 ^^^ q5)) (q2 + (q4 ^^^ q5))))])) (fun _ k => XS.lcmp X13.here hx rfl (hb hby at_103) rfl k) ?_
  refine Dn.by (U' := T13.setTop (mkF m 107 #[.val (.long q0), .second, .val (.long q1), .second, .val (.long q2), .second, .val (.long q3), .second, .val (.long q4), .second, .val (.long q5), .second, .val (.long q4), .second, .val (.long q5), .second, .val (.long (q4 ^^^ q5)), .second, .val (.long ((q4 * (31 : Int64)) - q5)), .second, .val (.ref b1), .val (.ref b5), .val (.ref b9)] [])) (fun _ k => XS.ifNo X13.here hx rfl (hb hby at_104) rfl ((if0 _ _).trans (teq ((lw_eq _ _).mpr rfl)).2) k) ?_
  refine Dn.by (U' := T13.setTop (mkF m 109 #[.val (.long q0), .second, .val (.long q1), .second, .val (.long q2), .second, .val (.long q3), .second, .val (.long q4), .second, .val (.long q5), .second, .val (.long q4), .second, .val (.long q5), .second, .val (.long (q4 ^^^ q5)), .second, .val (.long ((q4 * (31 : Int64)) - q5)), .second, .val (.ref b1), .val (.ref b5), .val (.ref b9)] [(.ref b9)])) (fun _ k => XS.aload X13.here hx rfl (hb hby at_107) rfl rfl k) ?_
  obtain ⟨cq14, kq14, qa14, qb14, qc14⟩ := isOf hZ e13 EE9
  obtain ⟨_, _, ⟨T14, L14, k14, n14⟩, -, X14, ⟨Lc14, hQ14, l14, y14, z14⟩, st14⟩ := X13.virtualBack hx (y := (⟨"com/example/weaverbird/weaverbird/model/RetryCounts", "permanent", "()J"⟩ : MethodName)) (z := (⟨"com/example/weaverbird/weaverbird/model/RetryCounts", "permanent", "()J"⟩ : MethodName)) hown (mvT hZ (hw _ (List.mem_of_getElem? (i := 40) rfl))) (mvT hZ (hw _ (List.mem_of_getElem? (i := 41) rfl))) (notFace_of_selects (args := #[]) (mvT hZ (hw _ (List.mem_of_getElem? (i := 43) rfl)))) (mvT hZ (hw _ (List.mem_of_getElem? (i := 43) rfl))) (mvT hZ (hw _ (List.mem_of_getElem? (i := 42) rfl))) (by decide) (backOf (W := 0) (rm7 l Z a0 hw [] b9 (q3 + ((q4 * (31 : Int64)) - q5)) T9.heap n0 z10 FF9_3) hZ (hw _ (List.mem_of_getElem? (i := 44) rfl)) (hw _ (List.mem_of_getElem? (i := 3) rfl)) (by decide) (by decide)) qa14 qc14 (g := (mkF m 109 #[.val (.long q0), .second, .val (.long q1), .second, .val (.long q2), .second, .val (.long q3), .second, .val (.long q4), .second, .val (.long q5), .second, .val (.long q4), .second, .val (.long q5), .second, .val (.long (q4 ^^^ q5)), .second, .val (.long ((q4 * (31 : Int64)) - q5)), .second, .val (.ref b1), .val (.ref b5), .val (.ref b9)] [(.ref b9)])) rfl (by rw [hml]; rfl) (Steps.refl _) (argsL := []) (rest := []) (lenOf pd2 rfl) rfl (by show 2 * 0 + _ ≤ _; exact Nat.le_of_eq rfl) (hb hby at_109) (fun _ _ => ⟨rfl, e13, (by decide : 3 + 0 ≤ _), (by decide : 12 + 0 ≤ _)⟩)
  dsimp only [Pt.U, Pt.locs, Pt.cells, Pt.slots] at X14 l14 y14 z14 st14 hQ14
  subst l14 y14 z14
  obtain ⟨rfl, N14q, e14⟩ := hQ14
  have N14 := Fr.app N13 N14q
  refine Dn.by (U' := T14.setTop (mkF m 112 #[.val (.long q0), .second, .val (.long q1), .second, .val (.long q2), .second, .val (.long q3), .second, .val (.long q4), .second, .val (.long q5), .second, .val (.long q4), .second, .val (.long q5), .second, .val (.long (q4 ^^^ q5)), .second, .val (.long ((q4 * (31 : Int64)) - q5)), .second, .val (.ref b1), .val (.ref b5), .val (.ref b9)] [(.long (q3 + ((q4 * (31 : Int64)) - q5)))])) (fun _ k => st14.trans k) ?_
  refine Dn.by (U' := T14.setTop (mkF m 114 #[.val (.long q0), .second, .val (.long q1), .second, .val (.long q2), .second, .val (.long q3), .second, .val (.long q4), .second, .val (.long q5), .second, .val (.long q4), .second, .val (.long q5), .second, .val (.long (q4 ^^^ q5)), .second, .val (.long ((q4 * (31 : Int64)) - q5)), .second, .val (.ref b1), .val (.ref b5), .val (.ref b9)] [(.long q3), (.long (q3 + ((q4 * (31 : Int64)) - q5)))])) (fun _ k => XS.lload X14.here hx rfl (hb hby at_112) rfl k) ?_
  refine Dn.by (U' := T14.setTop (mkF m 116 #[.val (.long q0), .second, .val (.long q1), .second, .val (.long q2), .second, .val (.long q3), .second, .val (.long q4), .second, .val (.long q5), .second, .val (.long q4), .second, .val (.long q5), .second, .val (.long (q4 ^^^ q5)), .second, .val (.long ((q4 * (31 : Int64)) - q5)), .second, .val (.ref b1), .val (.ref b5), .val (.ref b9)] [(.long ((q4 * (31 : Int64)) - q5)), (.long q3), (.long (q3 + ((q4 * (31 : Int64)) - q5)))])) (fun _ k => XS.lload X14.here hx rfl (hb hby at_114) rfl k) ?_
  refine Dn.by (U' := T14.setTop (mkF m 117 #[.val (.long q0), .second, .val (.long q1), .second, .val (.long q2), .second, .val (.long q3), .second, .val (.long q4), .second, .val (.long q5), .second, .val (.long q4), .second, .val (.long q5), .second, .val (.long (q4 ^^^ q5)), .second, .val (.long ((q4 * (31 : Int64)) - q5)), .second, .val (.ref b1), .val (.ref b5), .val (.ref b9)] [(.long (q3 + ((q4 * (31 : Int64)) - q5))), (.long (q3 + ((q4 * (31 : Int64)) - q5)))])) (fun _ k => XS.ladd X14.here hx rfl (hb hby at_116) rfl k) ?_
  refine Dn.by (U' := T14.setTop (mkF m 118 #[.val (.long q0), .second, .val (.long q1), .second, .val (.long q2), .second, .val (.long q3), .second, .val (.long q4), .second, .val (.long q5), .second, .val (.long q4), .second, .val (.long q5), .second, .val (.long (q4 ^^^ q5)), .second, .val (.long ((q4 * (31 : Int64)) - q5)), .second, .val (.ref b1), .val (.ref b5), .val (.ref b9)] [(.int (lcmpW (q3 + ((q4 * (31 : Int64)) - q5)) (q3 + ((q4 * (31 : Int64)) - q5))))])) (fun _ k => XS.lcmp X14.here hx rfl (hb hby at_117) rfl k) ?_
  refine Dn.by (U' := T14.setTop (mkF m 121 #[.val (.long q0), .second, .val (.long q1), .second, .val (.long q2), .second, .val (.long q3), .second, .val (.long q4), .second, .val (.long q5), .second, .val (.long q4), .second, .val (.long q5), .second, .val (.long (q4 ^^^ q5)), .second, .val (.long ((q4 * (31 : Int64)) - q5)), .second, .val (.ref b1), .val (.ref b5), .val (.ref b9)] [])) (fun _ k => XS.ifNo X14.here hx rfl (hb hby at_118) rfl ((if0 _ _).trans (teq ((lw_eq _ _).mpr rfl)).2) k) ?_
  refine Dn.by (U' := T14.setTop (mkF m 122 #[.val (.long q0), .second, .val (.long q1), .second, .val (.long q2), .second, .val (.long q3), .second, .val (.long q4), .second, .val (.long q5), .second, .val (.long q4), .second, .val (.long q5), .second, .val (.long (q4 ^^^ q5)), .second, .val (.long ((q4 * (31 : Int64)) - q5)), .second, .val (.ref b1), .val (.ref b5), .val (.ref b9)] [(.int (1 : Int32))])) (fun _ k => XS.iconst X14.here hx rfl (hb hby at_121)  k) ?_
  refine Dn.by (U' := T14.setTop (mkF m 126 #[.val (.long q0), .second, .val (.long q1), .second, .val (.long q2), .second, .val (.long q3), .second, .val (.long q4), .second, .val (.long q5), .second, .val (.long q4), .second, .val (.long q5), .second, .val (.long (q4 ^^^ q5)), .second, .val (.long ((q4 * (31 : Int64)) - q5)), .second, .val (.ref b1), .val (.ref b5), .val (.ref b9)] [(.int (1 : Int32))])) (fun _ k => XS.goto X14.here hx rfl (pc0 := 122) (pc' := 126) rfl (hb hby at_122) (by decide) (by decide) k) ?_
  refine Dn.out X14 (v := (some (.int (1 : Int32)))) (fun h => by rw [Bd.returns] at h; cases h) (BodyLoose.notSynchronized Bd) (fun _ hr => retN X14 hx (t := .boolean) Bd.returns (by simp) (hb hby at_126) hr) (by decide) (by decide) ?_
  rw [e14]
  exact ⟨rfl, N14⟩
set_option maxRecDepth 65536 in
set_option maxHeartbeats 40000000 in
theorem comes_1 {Post : Tables → Env → Array Value → State → Outcome → State → Prop} (hpost : ∀ tb e args s v u, (limb_1_1.after args s (.returned v) u = true ∧ limb_1_2.after args s (.returned v) u = true ∧ True) → FrameEnd s (.returned v) u (Jvm.fieldLocs frame_1_writes args s ++ Jvm.arrayLocs frame_1_arrays args s ++ Jvm.staticLocs frame_1_statics s) 16 128 → Post tb e args s (.returned v) u) :
    ArmFor flags0 classFile x code maxLocals ret World_1 tables_1 room_1 Calls_1 rest_1 Pre_1 Post := by
  intro l hfl _ _ p e ha hc hk s m args below hf hA hF happ hP
  obtain ⟨hcalls, hrest, hpre⟩ := hP
  obtain ⟨-, -, -, hnamed, -, -, -, hat⟩ := (Spec.applies_iff hf).mp happ
  obtain ⟨hg, hn⟩ := and_e (Cond.before_iff.mp (show (Jvm.Cond.and given_1 narrow_1).before args s = true from hpre))
  obtain ⟨gg1, gg2⟩ := and_e hg
  obtain ⟨gg3, gg4⟩ := and_e gg2
  obtain ⟨gg5, gg6⟩ := and_e gg4
  obtain ⟨gg7, gg8⟩ := and_e gg6
  obtain ⟨gg9, gg10⟩ := and_e gg8
  obtain ⟨gg11, gg12⟩ := and_e gg10
  obtain ⟨w0, w1, w2, w3, w4, w5, rfl⟩ : ∃ w0 w1 w2 w3 w4 w5 : Value, args = #[w0, w1, w2, w3, w4, w5] := by
    have hs : args.size = 6 := by simpa [Cond.value, given_1] using gg1
    obtain ⟨L⟩ := args
    match L, hs with
    | [w0, w1, w2, w3, w4, w5], _ => exact ⟨w0, w1, w2, w3, w4, w5, rfl⟩
  have hw := fun d (hd : d ∈ tables_1) => atoms_spec (ws := Jvm.Cond.code x code maxLocals ret :: tables_1) hat d (List.mem_cons_of_mem _ hd)
  have hfit : Fit s := fun {y c} hc i hi => by
    obtain ⟨ha, rfl⟩ := Array.getElem?_eq_some_iff.mp hc
    have q := List.all_eq_true.mp ((Array.all_eq_true_iff_forall_mem.mp hF) _ (Array.getElem_mem ha)) i (List.mem_range.mpr hi)
    simpa [Array.getElem?_eq_getElem hi] using q
  obtain ⟨i0, ei0⟩ := isL_v gg3
  obtain rfl : w0 = (.long i0) := Option.some.inj ei0
  obtain ⟨i1, ei1⟩ := isL_v gg5
  obtain rfl : w1 = (.long i1) := Option.some.inj ei1
  obtain ⟨i2, ei2⟩ := isL_v gg7
  obtain rfl : w2 = (.long i2) := Option.some.inj ei2
  obtain ⟨i3, ei3⟩ := isL_v gg9
  obtain rfl : w3 = (.long i3) := Option.some.inj ei3
  obtain ⟨i4, ei4⟩ := isL_v gg11
  obtain rfl : w4 = (.long i4) := Option.some.inj ei4
  obtain ⟨i5, ei5⟩ := isL_v gg12
  obtain rfl : w5 = (.long i5) := Option.some.inj ei5
  obtain ⟨n, o, h1, h2, h3, _, L, rfl, ⟨rfl, N⟩, hq⟩ := rm0 l s _ hw tables_1 i0 i1 i2 i3 i4 i5  s.heap s.heap.size (Nat.le_refl _)  p e ha hc hk s m _ below hf ((Spec.applies_iff_loose hf).mp happ).1 ⟨rfl, State.Warmed39.refl s, rfl⟩ trivial
  refine ⟨n, _, h1, h2, h3, hpost _ _ _ _ _ _ ⟨Cond.after_iff.mpr rfl, Cond.after_iff.mpr (eq_i res_at (Term.int_eval (1)) rfl), trivial⟩ ⟨hq.1, hq.2.1, (hq.2.2.sift fun y hy => Or.inr (N y hy)).mono (by decide) (by decide)⟩⟩
theorem main_1_1 : Claimed_1_1 := comes_1 fun _ _ _ _ _ _ h hF => ⟨h.1, hF⟩
theorem main_1_2 : Claimed_1_2 := comes_1 fun _ _ _ _ _ _ h hF => ⟨h.2.1, hF⟩
end Jvm.Pilot.@@N@@
namespace Jvm.Pilot.@@N@@
open Jvm Jvm.ClassFile Sem Op Lib Jvm.Free Jvm.Stand Jvm.Pilot.@@N@@.Jvm.D
/-! MADE BY PROGRAM (witnessworld.py) out of the Statement's table words and the real class files: 7 classes; the members and pool entries that the words name. The judged class is class 1, her method 1. -/
namespace start1
open Jvm.ClassFile
def u (s : String) : CpInfo := .utf8 (stringToUtf16 s)
/-- a pool by its gaps: so many unusable entries, then the entry; so many at the end -/
def gap : Nat → List CpInfo → List CpInfo
  | 0, r => r
  | n + 1, r => .unusable :: gap n r
def poolList (es : List (Nat × CpInfo)) (last : Nat) : List CpInfo := es.foldr (fun e r => gap e.1 (e.2 :: r)) (gap last [])
def pool (es : List (Nat × CpInfo)) (last : Nat) : Array CpInfo := ⟨poolList es last⟩
def fileOf (pool : Array CpInfo) (this : Nat) (attrs : Array Attribute := #[]) (ms : Array MethodInfo := #[]) (fl : Nat := 33) (sup : Nat := 0) (ifs : Array Nat := #[]) (fds : Array FieldInfo := #[]) : ClassFile where
  minorVersion := 0
  majorVersion := 65
  constantPool := pool
  accessFlags := fl
  thisClass := this
  superClass := sup
  interfaces := ifs
  fields := fds
  methods := ms
  attributes := attrs
def plain (name : String) (sup : Option ClassId) : Class where
  name := name
  kind := .ordinary
  loader := none
  accessFlags := 33
  super := sup
  interfaces := #[]
  cf := none
  fields := #[]
  methods := #[]
  instanceTypes := #[]
  staticTypes := #[]
  resolved := #[]
  callSites := []
  init := .initialized
  statics := none
  mirror := none

def pool0 : Array CpInfo := pool [(5, u "<init>"), (0, u "()V"), (1, .class_ 10), (1, u "java/lang/Object")] 113

def k0c0 : Code := { maxStack := 0, maxLocals := 1, code := object_method_1_code, exceptionTable := #[], attributes := #[] }
def k0m0 : Method := { name := "<init>", desc := "()V", sig := { parameters := [], returnType := none }, accessFlags := 1, code := some k0c0 }
/-- java/lang/Object -/
def k0 : Class := { plain "java/lang/Object" none with
  accessFlags := 33
  interfaces := #[]
  cf := some (fileOf pool0 8 #[] #[{ accessFlags := 1, nameIndex := 5, descriptorIndex := 6, attributes := #[] }] 33 0 #[] #[])
  fields := #[]
  methods := #[k0m0]
  instanceTypes := #[]
  staticTypes := #[]
  resolved := Array.replicate 124 none
  statics := none }

def pool1 : Array CpInfo := pool [(2, .class_ 4), (1, u "java/lang/Object"), (0, u "<init>"), (0, u "()V"), (0, .long 31), (1, .class_ 10), (0, u "com/example/weaverbird/weaverbird/model/RetryCounts"), (0, .methodref 9 12), (0, .nameAndType 5 13), (0, u "(JJJJ)V"), (0, .methodref 9 15), (0, .nameAndType 16 17), (0, u "plus"), (0, u "(Lcom/example/weaverbird/weaverbird/model/RetryCounts;)Lcom/example/weaverbird/weaverbird/model/RetryCounts;"), (0, .methodref 9 19), (0, .nameAndType 20 21), (0, u "retries"), (0, u "()J"), (0, .methodref 9 23), (0, .nameAndType 24 21), (0, u "successes"), (0, .methodref 9 26), (0, .nameAndType 27 21), (0, u "exhausted"), (0, .methodref 9 29), (0, .nameAndType 30 21), (0, u "permanent"), (0, .class_ 32), (0, u "com/example/weaverbird/weaverbird/model/RetryCountsPlusPinLaw"), (2, u "law"), (0, u "(JJJJJJ)Z")] 3

def k1m0 : Method := { name := "<init>", desc := "()V", sig := { parameters := [], returnType := none }, accessFlags := 1, code := none }
def k1c1 : Code := { maxStack := 10, maxLocals := 23, code := code, exceptionTable := #[], attributes := #[] }
def k1m1 : Method := { name := "law", desc := "(JJJJJJ)Z", sig := { parameters := [.long, .long, .long, .long, .long, .long], returnType := some .boolean }, accessFlags := 9, code := some k1c1 }
/-- com/example/weaverbird/weaverbird/model/RetryCountsPlusPinLaw -/
def k1 : Class := { plain "com/example/weaverbird/weaverbird/model/RetryCountsPlusPinLaw" (some 0) with
  accessFlags := 49
  interfaces := #[]
  cf := some (fileOf pool1 31 #[] #[{ accessFlags := 1, nameIndex := 5, descriptorIndex := 6, attributes := #[] }, { accessFlags := 9, nameIndex := 35, descriptorIndex := 36, attributes := #[] }] 49 2 #[] #[])
  fields := #[]
  methods := #[k1m0, k1m1]
  instanceTypes := #[]
  staticTypes := #[]
  resolved := Array.replicate 40 none
  statics := none }

def pool2 : Array CpInfo := pool [(1, .methodref 2 3), (0, .class_ 4), (0, .nameAndType 5 6), (0, u "java/lang/Object"), (0, u "<init>"), (0, u "()V"), (0, .fieldref 8 9), (0, .class_ 10), (0, .nameAndType 11 12), (0, u "com/example/weaverbird/weaverbird/model/RetryCounts"), (0, u "retries"), (0, u "J"), (0, .fieldref 8 14), (0, .nameAndType 15 12), (0, u "successes"), (0, .fieldref 8 17), (0, .nameAndType 18 12), (0, u "exhausted"), (0, .fieldref 8 20), (0, .nameAndType 21 12), (0, u "permanent"), (0, .methodref 8 23), (0, .nameAndType 5 24), (0, u "(JJJJ)V"), (18, u "NONE"), (0, u "Lcom/example/weaverbird/weaverbird/model/RetryCounts;"), (2, u "()J"), (0, u "plus"), (0, u "(Lcom/example/weaverbird/weaverbird/model/RetryCounts;)Lcom/example/weaverbird/weaverbird/model/RetryCounts;")] 25

def k2c0 : Code := { maxStack := 3, maxLocals := 9, code := prog_9_method_1_code, exceptionTable := #[], attributes := #[] }
def k2m0 : Method := { name := "<init>", desc := "(JJJJ)V", sig := { parameters := [.long, .long, .long, .long], returnType := none }, accessFlags := 1, code := some k2c0 }
def k2c1 : Code := { maxStack := 2, maxLocals := 1, code := prog_9_method_2_code, exceptionTable := #[], attributes := #[] }
def k2m1 : Method := { name := "retries", desc := "()J", sig := { parameters := [], returnType := some .long }, accessFlags := 1, code := some k2c1 }
def k2c2 : Code := { maxStack := 2, maxLocals := 1, code := prog_9_method_3_code, exceptionTable := #[], attributes := #[] }
def k2m2 : Method := { name := "successes", desc := "()J", sig := { parameters := [], returnType := some .long }, accessFlags := 1, code := some k2c2 }
def k2c3 : Code := { maxStack := 2, maxLocals := 1, code := prog_9_method_4_code, exceptionTable := #[], attributes := #[] }
def k2m3 : Method := { name := "exhausted", desc := "()J", sig := { parameters := [], returnType := some .long }, accessFlags := 1, code := some k2c3 }
def k2c4 : Code := { maxStack := 2, maxLocals := 1, code := prog_9_method_5_code, exceptionTable := #[], attributes := #[] }
def k2m4 : Method := { name := "permanent", desc := "()J", sig := { parameters := [], returnType := some .long }, accessFlags := 1, code := some k2c4 }
def k2c5 : Code := { maxStack := 12, maxLocals := 2, code := prog_9_method_6_code, exceptionTable := #[], attributes := #[] }
def k2m5 : Method := { name := "plus", desc := "(Lcom/example/weaverbird/weaverbird/model/RetryCounts;)Lcom/example/weaverbird/weaverbird/model/RetryCounts;", sig := { parameters := [(.object "com/example/weaverbird/weaverbird/model/RetryCounts")], returnType := some (.object "com/example/weaverbird/weaverbird/model/RetryCounts") }, accessFlags := 1, code := some k2c5 }
/-- com/example/weaverbird/weaverbird/model/RetryCounts -/
def k2 : Class := { plain "com/example/weaverbird/weaverbird/model/RetryCounts" (some 0) with
  accessFlags := 33
  interfaces := #[]
  cf := some (fileOf pool2 8 #[] #[{ accessFlags := 1, nameIndex := 5, descriptorIndex := 24, attributes := #[] }, { accessFlags := 1, nameIndex := 11, descriptorIndex := 47, attributes := #[] }, { accessFlags := 1, nameIndex := 15, descriptorIndex := 47, attributes := #[] }, { accessFlags := 1, nameIndex := 18, descriptorIndex := 47, attributes := #[] }, { accessFlags := 1, nameIndex := 21, descriptorIndex := 47, attributes := #[] }, { accessFlags := 1, nameIndex := 48, descriptorIndex := 49, attributes := #[] }] 33 2 #[] #[{ accessFlags := 25, nameIndex := 43, descriptorIndex := 44, attributes := #[] }, { accessFlags := 18, nameIndex := 11, descriptorIndex := 12, attributes := #[] }, { accessFlags := 18, nameIndex := 15, descriptorIndex := 12, attributes := #[] }, { accessFlags := 18, nameIndex := 18, descriptorIndex := 12, attributes := #[] }, { accessFlags := 18, nameIndex := 21, descriptorIndex := 12, attributes := #[] }])
  fields := #[{ name := "NONE", type := (.object "com/example/weaverbird/weaverbird/model/RetryCounts"), accessFlags := 25, slot := 0, constantValue := 0 }, { name := "retries", type := .long, accessFlags := 18, slot := 0, constantValue := 0 }, { name := "successes", type := .long, accessFlags := 18, slot := 1, constantValue := 0 }, { name := "exhausted", type := .long, accessFlags := 18, slot := 2, constantValue := 0 }, { name := "permanent", type := .long, accessFlags := 18, slot := 3, constantValue := 0 }]
  methods := #[k2m0, k2m1, k2m2, k2m3, k2m4, k2m5]
  instanceTypes := #[.long, .long, .long, .long]
  staticTypes := #[(.object "com/example/weaverbird/weaverbird/model/RetryCounts")]
  resolved := Array.replicate 75 none
  statics := none }

def pool3 : Array CpInfo := pool [(1, u "java/lang/Cloneable"), (0, .class_ 1), (0, u "java/lang/Object"), (0, .class_ 3)] 3

/-- java/lang/Cloneable -/
def k3 : Class := { plain "java/lang/Cloneable" (some 0) with
  accessFlags := 1537
  interfaces := #[]
  cf := some (fileOf pool3 2 #[] #[] 1537 4 #[] #[])
  fields := #[]
  methods := #[]
  instanceTypes := #[]
  staticTypes := #[]
  resolved := Array.replicate 8 none
  statics := none }

def pool4 : Array CpInfo := pool [(1, u "java/io/Serializable"), (0, .class_ 1), (0, u "java/lang/Object"), (0, .class_ 3)] 3

/-- java/io/Serializable -/
def k4 : Class := { plain "java/io/Serializable" (some 0) with
  accessFlags := 1537
  interfaces := #[]
  cf := some (fileOf pool4 2 #[] #[] 1537 4 #[] #[])
  fields := #[]
  methods := #[]
  instanceTypes := #[]
  staticTypes := #[]
  resolved := Array.replicate 8 none
  statics := none }

/-- the primitive byte -/
def k5 : Class := { plain "byte" none with kind := .primitive 'B', accessFlags := 0x411 }
/-- [B -/
def k6 : Class := { plain "[B" (some 0) with kind := .array 5 .byte, interfaces := #[3, 4], accessFlags := 1041 }

def heap : Heap := #[]
def classes : Array Class := #[k0, k1, k2, k3, k4, k5, k6]
def interned : List (Array UInt16 × Addr) := []
def slotsUsed : Nat := 0
def theMethod : MethodId := ⟨1, 1⟩
def args0 : Array Value := #[.long 0, .long 1, .long 2, .long 3, .long 4, .long 5]
def aboutOver (below : List Frame) : State where
  vm := { classes := classes, interned := interned.toArray }
  heap := heap
  slotsUsed := slotsUsed
  threads := #[{ frames := .invoking theMethod args0 :: below }]
def below0 : List Frame := [.native { method := ⟨0, 0⟩, args := #[] }]
def about1 : State := aboutOver below0
def p0 : Program := .bare "" "" ""
def e0 : Env := launch0.env 0 0 0
theorem w_frames : about1.frames = Frame.invoking theMethod args0 :: below0 := rfl
set_option maxRecDepth 65536 in
theorem w_args : argsFit about1.vm theMethod args0 = true := by decide +kernel
set_option maxRecDepth 65536 in
theorem w_heap : heapFits about1 = true := by decide +kernel
set_option maxRecDepth 65536 in
theorem w_runnable : about1.curStatus? = some .runnable := by decide +kernel
set_option maxRecDepth 65536 in
theorem w_alone : about1.alone = true := by decide +kernel
set_option maxRecDepth 65536 in
theorem w_named : about1.methodNamed? x = some theMethod := by decide +kernel
set_option maxRecDepth 65536 in
theorem w_hears : about1.hears theMethod below0 = true := by decide +kernel
set_option maxRecDepth 65536 in
theorem w_ripe : about1.ripe theMethod args0 below0 = true := by decide +kernel
theorem w_running : about1.status = .running := rfl
set_option maxRecDepth 65536 in
theorem w_room : about1.hasRoom e0.platform room_1 = true :=
  launch0.hasRoom_least _ room_1 (by decide +kernel) (by decide +kernel) (by decide +kernel) (by decide +kernel) (by decide +kernel) (by decide +kernel)
theorem allAtoms_all (ts : List Jvm.Cond) (a : Array Jvm.Value) (st : Jvm.State) : (allAtoms ts).before a st = ts.all (fun c => c.before a st) := by
  induction ts with
  | nil => rfl
  | cons c t ih =>
    show (Jvm.Cond.and c (allAtoms t)).before a st = _
    rw [Jvm.Cond.before_and, ih, List.all_cons]
def words1 : List Jvm.Cond := Jvm.Cond.code x code maxLocals ret :: tables_1
/-- a 'code' word, met by the world's own term for the bytes: nothing is compared byte by byte -/
theorem code_word {y : MethodName} {bytes : ByteArray} {mx : Nat} {rt : Option FieldType} {a : Array Value} {s : State} {m : MethodId} {meth : Method} {c : Code} (h1 : s.methodNamed? y = some m) (h2 : s.vm.method? m = some meth) (h3 : meth.code = some c) (h4 : c.code = bytes)
    (h5 : (c.maxLocals == mx && c.exceptionTable.isEmpty && decide (c.maxStack ≤ mostOperands) && decide (meth.sig.returnType = rt) && !meth.locks && decide (parseMethodDescriptor y.desc = some meth.sig)) = true) : (Jvm.Cond.code y bytes mx rt).before a s = true := by
  simp only [Bool.and_eq_true, beq_iff_eq, Bool.not_eq_true', decide_eq_true_eq] at h5
  obtain ⟨⟨⟨⟨⟨g1, g2⟩, g3⟩, g4⟩, g5⟩, g6⟩ := h5
  simp [Cond.before, Cond.holds, Cond.value, h1, h2, h3, h4, g1, g2, g3, g4, g5, g6]
def isCode : Jvm.Cond → Bool
  | .code _ _ _ _ => true
  | _ => false
theorem all_split {L : List Jvm.Cond} {P : Jvm.Cond → Bool} (h1 : L.all (fun c => isCode c || P c) = true) (h2 : ∀ c ∈ L.filter isCode, P c = true) : L.all P = true := by
  refine List.all_eq_true.mpr fun c hc => ?_
  have h := List.all_eq_true.mp h1 c hc
  rcases Bool.eq_false_or_eq_true (isCode c) with hi | hi
  · exact h2 c (List.mem_filter.mpr ⟨hc, hi⟩)
  · simpa [hi] using h
set_option maxRecDepth 65536 in
theorem w_c0 : (Jvm.Cond.code x code maxLocals ret).before args0 about1 = true := code_word (m := ⟨1, 1⟩) (meth := k1m1) (c := k1c1) (by decide +kernel) rfl rfl rfl (by decide +kernel)
set_option maxRecDepth 65536 in
theorem w_c1 : (Jvm.Cond.code ({ cls := "com/example/weaverbird/weaverbird/model/RetryCounts", name := "<init>", desc := "(JJJJ)V" } : Jvm.MethodName) prog_9_method_1_code (9 : Nat) (Option.none : Option Jvm.ClassFile.FieldType)).before args0 about1 = true := code_word (m := ⟨2, 0⟩) (meth := k2m0) (c := k2c0) (by decide +kernel) rfl rfl rfl (by decide +kernel)
set_option maxRecDepth 65536 in
theorem w_c2 : (Jvm.Cond.code ({ cls := "java/lang/Object", name := "<init>", desc := "()V" } : Jvm.MethodName) object_method_1_code (1 : Nat) (Option.none : Option Jvm.ClassFile.FieldType)).before args0 about1 = true := code_word (m := ⟨0, 0⟩) (meth := k0m0) (c := k0c0) (by decide +kernel) rfl rfl rfl (by decide +kernel)
set_option maxRecDepth 65536 in
theorem w_c3 : (Jvm.Cond.code ({ cls := "com/example/weaverbird/weaverbird/model/RetryCounts", name := "plus", desc := "(Lcom/example/weaverbird/weaverbird/model/RetryCounts;)Lcom/example/weaverbird/weaverbird/model/RetryCounts;" } : Jvm.MethodName) prog_9_method_6_code (2 : Nat) (Option.some (Jvm.ClassFile.FieldType.object "com/example/weaverbird/weaverbird/model/RetryCounts"))).before args0 about1 = true := code_word (m := ⟨2, 5⟩) (meth := k2m5) (c := k2c5) (by decide +kernel) rfl rfl rfl (by decide +kernel)
set_option maxRecDepth 65536 in
theorem w_c4 : (Jvm.Cond.code ({ cls := "com/example/weaverbird/weaverbird/model/RetryCounts", name := "retries", desc := "()J" } : Jvm.MethodName) prog_9_method_2_code (1 : Nat) (Option.some Jvm.ClassFile.FieldType.long)).before args0 about1 = true := code_word (m := ⟨2, 1⟩) (meth := k2m1) (c := k2c1) (by decide +kernel) rfl rfl rfl (by decide +kernel)
set_option maxRecDepth 65536 in
theorem w_c5 : (Jvm.Cond.code ({ cls := "com/example/weaverbird/weaverbird/model/RetryCounts", name := "successes", desc := "()J" } : Jvm.MethodName) prog_9_method_3_code (1 : Nat) (Option.some Jvm.ClassFile.FieldType.long)).before args0 about1 = true := code_word (m := ⟨2, 2⟩) (meth := k2m2) (c := k2c2) (by decide +kernel) rfl rfl rfl (by decide +kernel)
set_option maxRecDepth 65536 in
theorem w_c6 : (Jvm.Cond.code ({ cls := "com/example/weaverbird/weaverbird/model/RetryCounts", name := "exhausted", desc := "()J" } : Jvm.MethodName) prog_9_method_4_code (1 : Nat) (Option.some Jvm.ClassFile.FieldType.long)).before args0 about1 = true := code_word (m := ⟨2, 3⟩) (meth := k2m3) (c := k2c3) (by decide +kernel) rfl rfl rfl (by decide +kernel)
set_option maxRecDepth 65536 in
theorem w_c7 : (Jvm.Cond.code ({ cls := "com/example/weaverbird/weaverbird/model/RetryCounts", name := "permanent", desc := "()J" } : Jvm.MethodName) prog_9_method_5_code (1 : Nat) (Option.some Jvm.ClassFile.FieldType.long)).before args0 about1 = true := code_word (m := ⟨2, 4⟩) (meth := k2m4) (c := k2c4) (by decide +kernel) rfl rfl rfl (by decide +kernel)
def codes1 : List Jvm.Cond := [Jvm.Cond.code x code maxLocals ret, Jvm.Cond.code ({ cls := "com/example/weaverbird/weaverbird/model/RetryCounts", name := "<init>", desc := "(JJJJ)V" } : Jvm.MethodName) prog_9_method_1_code (9 : Nat) (Option.none : Option Jvm.ClassFile.FieldType), Jvm.Cond.code ({ cls := "java/lang/Object", name := "<init>", desc := "()V" } : Jvm.MethodName) object_method_1_code (1 : Nat) (Option.none : Option Jvm.ClassFile.FieldType), Jvm.Cond.code ({ cls := "com/example/weaverbird/weaverbird/model/RetryCounts", name := "plus", desc := "(Lcom/example/weaverbird/weaverbird/model/RetryCounts;)Lcom/example/weaverbird/weaverbird/model/RetryCounts;" } : Jvm.MethodName) prog_9_method_6_code (2 : Nat) (Option.some (Jvm.ClassFile.FieldType.object "com/example/weaverbird/weaverbird/model/RetryCounts")), Jvm.Cond.code ({ cls := "com/example/weaverbird/weaverbird/model/RetryCounts", name := "retries", desc := "()J" } : Jvm.MethodName) prog_9_method_2_code (1 : Nat) (Option.some Jvm.ClassFile.FieldType.long), Jvm.Cond.code ({ cls := "com/example/weaverbird/weaverbird/model/RetryCounts", name := "successes", desc := "()J" } : Jvm.MethodName) prog_9_method_3_code (1 : Nat) (Option.some Jvm.ClassFile.FieldType.long), Jvm.Cond.code ({ cls := "com/example/weaverbird/weaverbird/model/RetryCounts", name := "exhausted", desc := "()J" } : Jvm.MethodName) prog_9_method_4_code (1 : Nat) (Option.some Jvm.ClassFile.FieldType.long), Jvm.Cond.code ({ cls := "com/example/weaverbird/weaverbird/model/RetryCounts", name := "permanent", desc := "()J" } : Jvm.MethodName) prog_9_method_5_code (1 : Nat) (Option.some Jvm.ClassFile.FieldType.long)]
set_option maxRecDepth 65536 in
theorem codes_eq : words1.filter isCode = codes1 := rfl
theorem w_codes : ∀ c ∈ words1.filter isCode, c.before args0 about1 = true := by
  rw [codes_eq]
  intro c hc
  simp only [codes1, List.mem_cons, List.not_mem_nil, or_false] at hc
  rcases hc with rfl | rfl | rfl | rfl | rfl | rfl | rfl | rfl
  · exact w_c0
  · exact w_c1
  · exact w_c2
  · exact w_c3
  · exact w_c4
  · exact w_c5
  · exact w_c6
  · exact w_c7
set_option maxRecDepth 65536 in
theorem w_t1 : (words1.take 24).all (fun c => isCode c || c.before args0 about1) = true := by decide +kernel
set_option maxRecDepth 65536 in
theorem w_t2 : (words1.drop 24).all (fun c => isCode c || c.before args0 about1) = true := by decide +kernel
theorem w_tables : (allAtoms (Jvm.Cond.code x code maxLocals ret :: tables_1)).before args0 about1 = true := by
  rw [allAtoms_all]
  show words1.all (fun c => c.before args0 about1) = true
  refine all_split ?_ w_codes
  rw [← List.take_append_drop 24 words1, List.all_append, w_t1, w_t2]
  rfl
set_option maxRecDepth 65536 in
theorem w_case : (Jvm.Cond.and given_1 narrow_1).before args0 about1 = true := by decide +kernel
theorem w_applies : (headSpec (Jvm.Cond.code x code maxLocals ret :: tables_1) room_1).applies x e0.platform about1 = true :=
  (Spec.applies_iff w_frames).mpr ⟨w_running, w_runnable, w_alone, w_named, w_hears, w_ripe, w_room, w_tables⟩
theorem atStart : AtStart classFile x code maxLocals ret World_1 tables_1 room_1 Calls_1 rest_1 Pre_1 launch0 p0 e0 about1 theMethod args0 below0 :=
  ⟨lists_1, trivial, launch0.admits_env _ _ _, launch0.least_env, fairChoices_fair.cas, fairChoices_fair.clock, w_frames, w_args, w_heap, w_applies, trivial, trivial, w_case⟩
end start1
theorem witness_1 : WitnessClaimed_1 := ⟨start1.p0, start1.e0, start1.about1, start1.theMethod, start1.args0, start1.below0, start1.atStart⟩
end Jvm.Pilot.@@N@@
