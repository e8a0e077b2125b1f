import JvmDerived
import JvmDerived.Pilot.@@N@@Statement
import JvmDerived.Pilot.@@N@@Code
set_option linter.unusedVariables false
set_option linter.unusedSimpArgs false
namespace Jvm.Pilot.@@N@@
open Jvm Jvm.ClassFile Sem Op Lib Jvm.Free Jvm.Stand Jvm.LawKit Jvm.RoadKit Bundle Jvm.Pilot.@@N@@.Jvm.D
/-- from the state U the run comes to the method's end, where Q holds of what it returns, of the heap and of the places written -/
def Dn (p : Program) (e : Env) (below : List Frame) (s : State) (k n : Nat) (Q : Option Value → Heap → List Loc → Prop) (U : State) : Prop :=
  ∃ t o, Steps p.tables e below U t ∧ t.status = .running ∧ Ended t below o ∧ ∃ v L, o = .returned v ∧ Q v t.heap L ∧ FrameEnd s o t L k n
theorem Dn.by {p : Program} {e : Env} {below : List Frame} {s : State} {k n : Nat} {Q : Option Value → Heap → List Loc → Prop} {U U' : State} (st : ∀ t, Steps p.tables e below U' t → Steps p.tables e below U t) (h : Dn p e below s k n Q U') : Dn p e below s k n Q U := by
  obtain ⟨t, o, h1, h2⟩ := h
  exact ⟨t, o, st t h1, h2⟩
theorem Dn.out {p : Program} {l : Launch} {e : Env} {R : Room} {s : State} {m : MethodId} {args : Array Value} {below : List Frame} {meth : Method} {c : Code} {T : State} {locs : List Loc} {cells slots k n : Nat} {Q : Option Value → Heap → List Loc → Prop} {U : State} (X : Stand p l e R s m args below meth c T locs cells slots) {v : Option Value} (hv : meth.sig.returnType = none → v = none) (hlk : meth.locks = false)
    (st : ∀ fs, (∀ (f : JFrame) (acts : List Action), f.method = m → f.locked = none → f.entered = [] → (doReturn e (T.setTop f) acts v).1 = T.setFrames fs) → Steps p.tables e below U (T.setFrames fs)) (hk : cells ≤ k) (hn : slots ≤ n) (hQ : Q v T.heap locs) : Dn p e below s k n Q U := by
  obtain ⟨fs, hr, hrun, hended, hW, hsame⟩ := X.leave (v := v) hv hlk
  exact ⟨_, _, st fs hr, hrun, hended, v, locs, rfl, hQ, ⟨_, rfl⟩, hW, hsame.mono hk hn⟩
theorem pn0 : plainName "java/lang/StringLatin1" = true := by first | (simp [plainName, overriddenIn]; done) | decide +kernel
theorem pn1 : plainName "java/lang/String" = true := by first | (simp [plainName, overriddenIn]; done) | decide +kernel
theorem pn2 : plainName "java/lang/Record" = true := by first | (simp [plainName, overriddenIn]; done) | decide +kernel
theorem pn3 : plainName "formwire/cli/RequestHead" = true := by first | (simp [plainName, overriddenIn]; done) | decide +kernel
theorem pn4 : plainName "formwire/cli/RequestHeadBodyLengthPinLaw" = true := by first | (simp [plainName, overriddenIn]; done) | decide +kernel
theorem pd0 : parseMethodDescriptor "(C)Z" = some ⟨[.char], some .boolean⟩ := by decide +kernel
theorem pd1 : parseMethodDescriptor "(C)[B" = some ⟨[.char], some (.array .byte)⟩ := by decide +kernel
theorem pd2 : parseMethodDescriptor "([BB)V" = some ⟨[(.array .byte), .byte], none⟩ := by decide +kernel
theorem pd3 : parseMethodDescriptor "()V" = some ⟨[], none⟩ := by decide +kernel
theorem pd4 : parseMethodDescriptor "(JJ)J" = some ⟨[.long, .long], some .long⟩ := by decide +kernel
theorem pd5 : parseMethodDescriptor "(C)Ljava/lang/String;" = some ⟨[.char], some (.object "java/lang/String")⟩ := by decide +kernel
theorem pd6 : parseMethodDescriptor "(Ljava/lang/String;Ljava/lang/String;JZ)V" = some ⟨[(.object "java/lang/String"), (.object "java/lang/String"), .long, .boolean], none⟩ := by decide +kernel
theorem pd7 : parseMethodDescriptor "()J" = some ⟨[], some .long⟩ := by decide +kernel
theorem d1_0 : decode jdk_42_method_139_code 0 = .ok (.getstatic 38, 3) := by decide +kernel
theorem d1_3 : decode jdk_42_method_139_code 3 = .ok (.ifCond .eq 23, 3) := by decide +kernel
theorem d1_6 : decode jdk_42_method_139_code 6 = .ok (.iload_n 0, 1) := by decide +kernel
theorem d1_7 : decode jdk_42_method_139_code 7 = .ok (.invokestatic 1015, 3) := by decide +kernel
theorem d1_10 : decode jdk_42_method_139_code 10 = .ok (.ifCond .eq 16, 3) := by decide +kernel
theorem d1_13 : decode jdk_42_method_139_code 13 = .ok (.new 10, 3) := by decide +kernel
theorem d1_16 : decode jdk_42_method_139_code 16 = .ok (.dup, 1) := by decide +kernel
theorem d1_17 : decode jdk_42_method_139_code 17 = .ok (.iload_n 0, 1) := by decide +kernel
theorem d1_18 : decode jdk_42_method_139_code 18 = .ok (.invokestatic 1018, 3) := by decide +kernel
theorem d1_21 : decode jdk_42_method_139_code 21 = .ok (.iconst 0, 1) := by decide +kernel
theorem d1_22 : decode jdk_42_method_139_code 22 = .ok (.invokespecial 209, 3) := by decide +kernel
theorem d1_25 : decode jdk_42_method_139_code 25 = .ok (.areturn, 1) := by decide +kernel
theorem d2_0 : decode jdk_43_method_3_code 0 = .ok (.iload_n 0, 1) := by decide +kernel
theorem d2_1 : decode jdk_43_method_3_code 1 = .ok (.sipush 255, 3) := by decide +kernel
theorem d2_4 : decode jdk_43_method_3_code 4 = .ok (.if_icmp .gt 7, 3) := by decide +kernel
theorem d2_7 : decode jdk_43_method_3_code 7 = .ok (.iconst 1, 1) := by decide +kernel
theorem d2_8 : decode jdk_43_method_3_code 8 = .ok (.goto 4, 3) := by decide +kernel
theorem d2_11 : decode jdk_43_method_3_code 11 = .ok (.iconst 0, 1) := by decide +kernel
theorem d2_12 : decode jdk_43_method_3_code 12 = .ok (.ireturn, 1) := by decide +kernel
theorem d3_0 : decode jdk_43_method_46_code 0 = .ok (.iconst 1, 1) := by decide +kernel
theorem d3_1 : decode jdk_43_method_46_code 1 = .ok (.newarray .byte, 2) := by decide +kernel
theorem d3_3 : decode jdk_43_method_46_code 3 = .ok (.dup, 1) := by decide +kernel
theorem d3_4 : decode jdk_43_method_46_code 4 = .ok (.iconst 0, 1) := by decide +kernel
theorem d3_5 : decode jdk_43_method_46_code 5 = .ok (.iload_n 0, 1) := by decide +kernel
theorem d3_6 : decode jdk_43_method_46_code 6 = .ok (.i2b, 1) := by decide +kernel
theorem d3_7 : decode jdk_43_method_46_code 7 = .ok (.bastore, 1) := by decide +kernel
theorem d3_8 : decode jdk_43_method_46_code 8 = .ok (.areturn, 1) := by decide +kernel
theorem d4_0 : decode jdk_42_method_151_code 0 = .ok (.aload_n 0, 1) := by decide +kernel
theorem d4_1 : decode jdk_42_method_151_code 1 = .ok (.invokespecial 1, 3) := by decide +kernel
theorem d4_4 : decode jdk_42_method_151_code 4 = .ok (.aload_n 0, 1) := by decide +kernel
theorem d4_5 : decode jdk_42_method_151_code 5 = .ok (.aload_n 1, 1) := by decide +kernel
theorem d4_6 : decode jdk_42_method_151_code 6 = .ok (.putfield 9, 3) := by decide +kernel
theorem d4_9 : decode jdk_42_method_151_code 9 = .ok (.aload_n 0, 1) := by decide +kernel
theorem d4_10 : decode jdk_42_method_151_code 10 = .ok (.iload_n 2, 1) := by decide +kernel
theorem d4_11 : decode jdk_42_method_151_code 11 = .ok (.putfield 15, 3) := by decide +kernel
theorem d4_14 : decode jdk_42_method_151_code 14 = .ok (.return_, 1) := by decide +kernel
theorem d6_0 : decode prog_42_method_1_code 0 = .ok (.aload_n 0, 1) := by decide +kernel
theorem d6_1 : decode prog_42_method_1_code 1 = .ok (.invokespecial 1, 3) := by decide +kernel
theorem d6_4 : decode prog_42_method_1_code 4 = .ok (.aload_n 0, 1) := by decide +kernel
theorem d6_5 : decode prog_42_method_1_code 5 = .ok (.aload_n 1, 1) := by decide +kernel
theorem d6_6 : decode prog_42_method_1_code 6 = .ok (.putfield 7, 3) := by decide +kernel
theorem d6_9 : decode prog_42_method_1_code 9 = .ok (.aload_n 0, 1) := by decide +kernel
theorem d6_10 : decode prog_42_method_1_code 10 = .ok (.aload_n 2, 1) := by decide +kernel
theorem d6_11 : decode prog_42_method_1_code 11 = .ok (.putfield 13, 3) := by decide +kernel
theorem d6_14 : decode prog_42_method_1_code 14 = .ok (.aload_n 0, 1) := by decide +kernel
theorem d6_15 : decode prog_42_method_1_code 15 = .ok (.lload_n 3, 1) := by decide +kernel
theorem d6_16 : decode prog_42_method_1_code 16 = .ok (.putfield 16, 3) := by decide +kernel
theorem d6_19 : decode prog_42_method_1_code 19 = .ok (.aload_n 0, 1) := by decide +kernel
theorem d6_20 : decode prog_42_method_1_code 20 = .ok (.iload 5, 2) := by decide +kernel
theorem d6_22 : decode prog_42_method_1_code 22 = .ok (.putfield 20, 3) := by decide +kernel
theorem d6_25 : decode prog_42_method_1_code 25 = .ok (.return_, 1) := by decide +kernel
theorem d7_0 : decode jdk_30_method_1_code 0 = .ok (.aload_n 0, 1) := by decide +kernel
theorem d7_1 : decode jdk_30_method_1_code 1 = .ok (.invokespecial 1, 3) := by decide +kernel
theorem d7_4 : decode jdk_30_method_1_code 4 = .ok (.return_, 1) := by decide +kernel
theorem d8_0 : decode prog_42_method_5_code 0 = .ok (.aload_n 0, 1) := by decide +kernel
theorem d8_1 : decode prog_42_method_5_code 1 = .ok (.getfield 20, 3) := by decide +kernel
theorem d8_4 : decode prog_42_method_5_code 4 = .ok (.ifCond .eq 9, 3) := by decide +kernel
theorem d8_7 : decode prog_42_method_5_code 7 = .ok (.ldc2_w 55, 3) := by decide +kernel
theorem d8_10 : decode prog_42_method_5_code 10 = .ok (.goto 11, 3) := by decide +kernel
theorem d8_13 : decode prog_42_method_5_code 13 = .ok (.aload_n 0, 1) := by decide +kernel
theorem d8_14 : decode prog_42_method_5_code 14 = .ok (.getfield 16, 3) := by decide +kernel
theorem d8_17 : decode prog_42_method_5_code 17 = .ok (.lconst 0, 1) := by decide +kernel
theorem d8_18 : decode prog_42_method_5_code 18 = .ok (.invokestatic 135, 3) := by decide +kernel
theorem d8_21 : decode prog_42_method_5_code 21 = .ok (.lreturn, 1) := by decide +kernel
theorem d9_0 : decode jdk_29_method_66_code 0 = .ok (.lload_n 0, 1) := by decide +kernel
theorem d9_1 : decode jdk_29_method_66_code 1 = .ok (.lload_n 2, 1) := by decide +kernel
theorem d9_2 : decode jdk_29_method_66_code 2 = .ok (.lcmp, 1) := by decide +kernel
theorem d9_3 : decode jdk_29_method_66_code 3 = .ok (.ifCond .lt 7, 3) := by decide +kernel
theorem d9_6 : decode jdk_29_method_66_code 6 = .ok (.lload_n 0, 1) := by decide +kernel
theorem d9_7 : decode jdk_29_method_66_code 7 = .ok (.goto 4, 3) := by decide +kernel
theorem d9_10 : decode jdk_29_method_66_code 10 = .ok (.lload_n 2, 1) := by decide +kernel
theorem d9_11 : decode jdk_29_method_66_code 11 = .ok (.lreturn, 1) := by decide +kernel
def canE (p0 : Int32) : Int32 := (if (255 : Int32) < p0 then (0 : Int32) else (1 : Int32))
abbrev Rm2 : Room := { frames := 0, cells := 0, slots := 0, locals := 0 }
theorem ef_2 (m : MethodId) (p0 : Int32) : entryFrame m #[(.int p0)] 1 = mkF m 0 #[.val (.int p0)] [] := by first | (simp [entryFrame, mkF, argsToLocals, Value.category]; done) | rfl
def Q2 (Z : State) (p0 : Int32) (h0 : Heap) (n0 : Nat) (v : Option Value) (h : Heap) (L : List Loc) : Prop := v = some (.int (canE p0)) ∧ Fr n0 L ∧ h = h0
set_option maxRecDepth 65536 in
set_option maxHeartbeats 40000000 in
theorem rm2 (l : Launch) (Z : State) (a0 : Array Value) (hw : ∀ d ∈ tables_1, d.before a0 Z = true) (ws : List Jvm.Cond) (p0 : Int32) (h0 : Heap) (n0 : Nat) (Z0 : n0 ≤ h0.size)  :
    MetFree l (⟨"java/lang/StringLatin1", "canEncode", "(C)Z"⟩ : MethodName) (head1 (Jvm.Cond.code (⟨"java/lang/StringLatin1", "canEncode", "(C)Z"⟩ : MethodName) jdk_43_method_3_code 1 (some .boolean) :: ws) Rm2) (fun a U => a = #[(.int p0)] ∧ Z.Warmed39 U.vm ∧ U.heap = h0) (fun _ _ _ _ _ => True) (fun _ U o U' => ∃ v L, o = .returned v ∧ Q2 Z p0 h0 n0 v U'.heap L ∧ FrameEnd U o U' L Rm2.cells Rm2.slots) := by
  refine MetFree.of_bodySF (plainFor_of_name pn0) hisR ?_
  intro p e s m args below meth c s₁ Bd hml0 hP hK
  obtain ⟨rfl, hZ, hh⟩ := hP
  have hx := Bd.exec
  have hby := Bd.bytes
  have hml : c.maxLocals = 1 := hml0
  have hown : s.vm.findClass "java/lang/StringLatin1" = some m.cls := findClass_of_methodNamed Bd.named
  have hnm := (name_of_methodNamed Bd.named Bd.method).1
  have X0 : Stand p l e Rm2 s m #[(.int p0)] below meth c s₁ [] 0 0 := Stand.of_body Bd
  have e0 : s₁.heap = h0 := by rw [← hh, Bd.state]; rfl
  have N0 := Fr.nil n0
  show Dn p e below s Rm2.cells Rm2.slots (Q2 Z p0 h0 n0) (s₁.setTop (entryFrame m #[(.int p0)] 1))
  rw [ef_2]
  refine Dn.by (U' := s₁.setTop (mkF m 1 #[.val (.int p0)] [(.int p0)])) (fun _ k => XS.iloadN X0.here hx rfl (hb hby d2_0) rfl k) ?_
  refine Dn.by (U' := s₁.setTop (mkF m 4 #[.val (.int p0)] [(.int (255 : Int32)), (.int p0)])) (fun _ k => XS.sipush X0.here hx rfl (hb hby d2_1)  k) ?_
  by_cases c4_1 : (255 : Int32) < p0
  ·
    refine Dn.by (U' := s₁.setTop (mkF m 11 #[.val (.int p0)] [])) (fun _ k => XS.icmpYes X0.here hx rfl (pc0 := 4) (pc' := 11) rfl (hb hby d2_4) rfl (tlt c4_1).2.2.1 (by decide) (by decide) k) ?_
    refine Dn.by (U' := s₁.setTop (mkF m 12 #[.val (.int p0)] [(.int (0 : Int32))])) (fun _ k => XS.iconst X0.here hx rfl (hb hby d2_11)  k) ?_
    refine Dn.out X0 (v := (some (.int (0 : Int32)))) (fun h => by rw [Bd.returns] at h; cases h) (BodyLoose.notSynchronized Bd) (fun _ hr => retN X0 hx (t := .boolean) Bd.returns (by simp) (hb hby d2_12) hr) (by decide) (by decide) ?_
    rw [e0]
    exact ⟨by simp only [canE, if_pos c4_1], N0, rfl⟩
  ·
    refine Dn.by (U' := s₁.setTop (mkF m 7 #[.val (.int p0)] [])) (fun _ k => XS.icmpNo X0.here hx rfl (hb hby d2_4) rfl (flt c4_1).2.2.1 k) ?_
    refine Dn.by (U' := s₁.setTop (mkF m 8 #[.val (.int p0)] [(.int (1 : Int32))])) (fun _ k => XS.iconst X0.here hx rfl (hb hby d2_7)  k) ?_
    refine Dn.by (U' := s₁.setTop (mkF m 12 #[.val (.int p0)] [(.int (1 : Int32))])) (fun _ k => XS.goto X0.here hx rfl (pc0 := 8) (pc' := 12) rfl (hb hby d2_8) (by decide) (by decide) k) ?_
    refine Dn.out X0 (v := (some (.int (1 : Int32)))) (fun h => by rw [Bd.returns] at h; cases h) (BodyLoose.notSynchronized Bd) (fun _ hr => retN X0 hx (t := .boolean) Bd.returns (by simp) (hb hby d2_12) hr) (by decide) (by decide) ?_
    rw [e0]
    exact ⟨by simp only [canE, if_neg c4_1], N0, rfl⟩
abbrev Rm3 : Room := { frames := 0, cells := 1, slots := 1, locals := 0 }
theorem ef_3 (m : MethodId) (p0 : Int32) : entryFrame m #[(.int p0)] 1 = mkF m 0 #[.val (.int p0)] [] := by first | (simp [entryFrame, mkF, argsToLocals, Value.category]; done) | rfl
def Q3 (Z : State) (p0 : Int32) (h0 : Heap) (n0 : Nat) (v : Option Value) (h : Heap) (L : List Loc) : Prop := ∃ b, v = some (.ref b) ∧ Fr n0 L ∧ h0.size ≤ b ∧ Keep h0 h []
set_option maxRecDepth 65536 in
set_option maxHeartbeats 40000000 in
theorem rm3 (l : Launch) (Z : State) (a0 : Array Value) (hw : ∀ d ∈ tables_1, d.before a0 Z = true) (ws : List Jvm.Cond) (p0 : Int32) (h0 : Heap) (n0 : Nat) (Z0 : n0 ≤ h0.size)  :
    MetFree l (⟨"java/lang/StringLatin1", "toBytes", "(C)[B"⟩ : MethodName) (head1 (Jvm.Cond.code (⟨"java/lang/StringLatin1", "toBytes", "(C)[B"⟩ : MethodName) jdk_43_method_46_code 1 (some (.array .byte)) :: ws) Rm3) (fun a U => a = #[(.int p0)] ∧ Z.Warmed39 U.vm ∧ U.heap = h0) (fun _ _ _ _ _ => True) (fun _ U o U' => ∃ v L, o = .returned v ∧ Q3 Z p0 h0 n0 v U'.heap L ∧ FrameEnd U o U' L Rm3.cells Rm3.slots) := by
  refine MetFree.of_bodySF (plainFor_of_name pn0) hisR ?_
  intro p e s m args below meth c s₁ Bd hml0 hP hK
  obtain ⟨rfl, hZ, hh⟩ := hP
  have hx := Bd.exec
  have hby := Bd.bytes
  have hml : c.maxLocals = 1 := hml0
  have hown : s.vm.findClass "java/lang/StringLatin1" = some m.cls := findClass_of_methodNamed Bd.named
  have hnm := (name_of_methodNamed Bd.named Bd.method).1
  have X0 : Stand p l e Rm3 s m #[(.int p0)] below meth c s₁ [] 0 0 := Stand.of_body Bd
  have e0 : s₁.heap = h0 := by rw [← hh, Bd.state]; rfl
  have N0 := Fr.nil n0
  show Dn p e below s Rm3.cells Rm3.slots (Q3 Z p0 h0 n0) (s₁.setTop (entryFrame m #[(.int p0)] 1))
  rw [ef_3]
  refine Dn.by (U' := s₁.setTop (mkF m 1 #[.val (.int p0)] [(.int (1 : Int32))])) (fun _ k => XS.iconst X0.here hx rfl (hb hby d3_0)  k) ?_
  obtain ⟨T1, h1, k1, X1, e1, E1, A1, st1⟩ := newP X0 hx hZ (hw _ (List.mem_of_getElem? (i := 14) rfl)) e0 (g := (mkF m 1 #[.val (.int p0)] [(.int (1 : Int32))])) rfl (hb hby d3_1) rfl (by decide) (cap := 1) (by decide) (by decide) (by decide) (by decide)
  obtain ⟨b1, g1⟩ : ∃ z, z = h0.size := ⟨_, rfl⟩
  rw [← g1] at A1 st1
  have g_b1 : n0 ≤ b1 := Nat.le_trans Z0 (Nat.le_of_eq g1.symm)
  have sz_b1 : h0.size ≤ b1 := Nat.le_trans (Keep.refl h0 []).1 (Nat.le_of_eq g1.symm)
  have K2 : Keep h0 h1 [] := ((Keep.refl h0 []).ext E1)
  have z2 : n0 ≤ h1.size := (Nat.le_trans Z0 E1.1)
  have V1 : Arv Z h1 b1 k1 .byte (1 : Int32) [(.int (0 : Int32))] (.int (0 : Int32)) := (Arv.new A1 (by decide)).pad (pad_rep [] (.int (0 : Int32)) 1)
  refine Dn.by (U' := T1.setTop (mkF m 3 #[.val (.int p0)] [(.ref b1)])) st1 ?_
  refine Dn.by (U' := T1.setTop (mkF m 4 #[.val (.int p0)] [(.ref b1), (.ref b1)])) (fun _ k => XS.dup X1.here hx rfl (hb hby d3_3) rfl rfl k) ?_
  refine Dn.by (U' := T1.setTop (mkF m 5 #[.val (.int p0)] [(.int (0 : Int32)), (.ref b1), (.ref b1)])) (fun _ k => XS.iconst X1.here hx rfl (hb hby d3_4)  k) ?_
  refine Dn.by (U' := T1.setTop (mkF m 6 #[.val (.int p0)] [(.int p0), (.int (0 : Int32)), (.ref b1), (.ref b1)])) (fun _ k => XS.iloadN X1.here hx rfl (hb hby d3_5) rfl k) ?_
  refine Dn.by (U' := T1.setTop (mkF m 7 #[.val (.int p0)] [(.int (p0.toInt8.toInt32)), (.int (0 : Int32)), (.ref b1), (.ref b1)])) (fun _ k => XS.i2b X1.here hx rfl (hb hby d3_6) rfl k) ?_
  obtain ⟨cl3, Ar3, q3, S3, M3, H3, G3⟩ := V1
  obtain ⟨T3, h3, X3, e3, W3, st3⟩ := stB X1 hx hZ e1 Ar3 (j := (0 : Int32)) (inb_of S3 ⟨by decide, by decide⟩) (g := (mkF m 7 #[.val (.int p0)] [(.int (p0.toInt8.toInt32)), (.int (0 : Int32)), (.ref b1), (.ref b1)])) rfl rfl (hb hby d3_7)
  have V3 := Arv.set Ar3 q3 S3 M3 H3 G3 (fits_nar_byte _) W3 0 rfl (Nat.le_of_ble_eq_true rfl)
  have K4 : Keep h0 h3 [] := (K2.wr W3 (Or.inr sz_b1))
  have z4 : n0 ≤ h3.size := (Nat.le_trans z2 (Keep.of_wr W3).1)
  have V3b : Arv Z h3 b1 k1 .byte (1 : Int32) [(.int (nar .byte (p0.toInt8.toInt32)))] (.int (0 : Int32)) := V3
  have N3 := Fr.snoc X3 N0 g_b1
  refine Dn.by (U' := T3.setTop (mkF m 8 #[.val (.int p0)] [(.ref b1)])) st3 ?_
  refine Dn.out X3 (v := (some (.ref b1))) (fun h => by rw [Bd.returns] at h; cases h) (BodyLoose.notSynchronized Bd) (fun _ hr => retOut X3 hx Bd.returns rfl (Or.inr (Or.inr (Or.inr (Or.inr ⟨rfl, rfl, rfl⟩)))) (hb hby d3_8) hr) (by decide) (by decide) ?_
  rw [e3]
  exact ⟨b1, rfl, N3, sz_b1, K4⟩
abbrev Rm4 : Room := { frames := 1, cells := 0, slots := 0, locals := 12 }
theorem ef_4 (m : MethodId) (o0 : Addr) (o1 : Addr) (p2 : Int32) : entryFrame m #[(.ref o0), (.ref o1), (.int p2)] 3 = mkF m 0 #[.val (.ref o0), .val (.ref o1), .val (.int p2)] [] := by first | (simp [entryFrame, mkF, argsToLocals, Value.category]; done) | rfl
def Q4 (Z : State) (o0 : Addr) (o1 : Addr) (p2 : Int32) (u_value : Value) (u_coder : Value) (h0 : Heap) (n0 : Nat) (v : Option Value) (h : Heap) (L : List Loc) : Prop := v = none ∧ Fr n0 L ∧ Keep h0 h [o0] ∧ Exa Z h o0 "java/lang/String" ∧ Fld Z h o0 "java/lang/String" "value" "[B" (.ref o1) ∧ Fld Z h o0 "java/lang/String" "coder" "B" (.int (nar .byte p2))
set_option maxRecDepth 65536 in
set_option maxHeartbeats 40000000 in
theorem rm4 (l : Launch) (Z : State) (a0 : Array Value) (hw : ∀ d ∈ tables_1, d.before a0 Z = true) (ws : List Jvm.Cond) (o0 : Addr) (o1 : Addr) (p2 : Int32) (u_value : Value) (u_coder : Value) (h0 : Heap) (n0 : Nat) (Z0 : n0 ≤ h0.size) (g_o0 : n0 ≤ o0) (E_o0 : Exa Z h0 o0 "java/lang/String") (F_u_value : Fld Z h0 o0 "java/lang/String" "value" "[B" u_value) (F_u_coder : Fld Z h0 o0 "java/lang/String" "coder" "B" u_coder) :
    MetFree l (⟨"java/lang/String", "<init>", "([BB)V"⟩ : MethodName) (head1 (Jvm.Cond.code (⟨"java/lang/String", "<init>", "([BB)V"⟩ : MethodName) jdk_42_method_151_code 3 none :: ws) Rm4) (fun a U => a = #[(.ref o0), (.ref o1), (.int p2)] ∧ Z.Warmed39 U.vm ∧ U.heap = h0) (fun _ _ _ _ _ => True) (fun _ U o U' => ∃ v L, o = .returned v ∧ Q4 Z o0 o1 p2 u_value u_coder h0 n0 v U'.heap L ∧ FrameEnd U o U' L Rm4.cells Rm4.slots) := by
  refine MetFree.of_bodySF (plainFor_of_name pn1) hisR ?_
  intro p e s m args below meth c s₁ Bd hml0 hP hK
  obtain ⟨rfl, hZ, hh⟩ := hP
  have hx := Bd.exec
  have hby := Bd.bytes
  have hml : c.maxLocals = 3 := hml0
  have hown : s.vm.findClass "java/lang/String" = some m.cls := findClass_of_methodNamed Bd.named
  have hnm := (name_of_methodNamed Bd.named Bd.method).1
  have X0 : Stand p l e Rm4 s m #[(.ref o0), (.ref o1), (.int p2)] below meth c s₁ [] 0 0 := Stand.of_body Bd
  have e0 : s₁.heap = h0 := by rw [← hh, Bd.state]; rfl
  have N0 := Fr.nil n0
  show Dn p e below s Rm4.cells Rm4.slots (Q4 Z o0 o1 p2 u_value u_coder h0 n0) (s₁.setTop (entryFrame m #[(.ref o0), (.ref o1), (.int p2)] 3))
  rw [ef_4]
  refine Dn.by (U' := s₁.setTop (mkF m 1 #[.val (.ref o0), .val (.ref o1), .val (.int p2)] [(.ref o0)])) (fun _ k => XS.aloadN X0.here hx rfl (hb hby d4_0) rfl rfl k) ?_
  obtain ⟨T1, X1, e1, st1⟩ := initO X0 hx hZ hown (hw _ (List.mem_of_getElem? (i := 19) rfl)) (hw _ (List.mem_of_getElem? (i := 20) rfl)) (hw _ (List.mem_of_getElem? (i := 21) rfl)) e0 (g := (mkF m 1 #[.val (.ref o0), .val (.ref o1), .val (.int p2)] [(.ref o0)])) rfl (by rw [hml]; rfl) rfl (hb hby d4_1) (by decide) (W := 0) (by show 2 * 0 + _ ≤ _; exact Nat.le_of_eq rfl) (by decide)
  refine Dn.by (U' := T1.setTop (mkF m 4 #[.val (.ref o0), .val (.ref o1), .val (.int p2)] [])) st1 ?_
  refine Dn.by (U' := T1.setTop (mkF m 5 #[.val (.ref o0), .val (.ref o1), .val (.int p2)] [(.ref o0)])) (fun _ k => XS.aloadN X1.here hx rfl (hb hby d4_4) rfl rfl k) ?_
  refine Dn.by (U' := T1.setTop (mkF m 6 #[.val (.ref o0), .val (.ref o1), .val (.int p2)] [(.ref o1), (.ref o0)])) (fun _ k => XS.aloadN X1.here hx rfl (hb hby d4_5) rfl rfl k) ?_
  obtain ⟨T2, h2, X2, e2, W2, st2⟩ := putF X1 hx hZ hown (host := "") (Or.inl (hw _ (List.mem_of_getElem? (i := 22) rfl))) Via.refl e1 F_u_value E_o0 (Or.inr ⟨(hw _ (List.mem_of_getElem? (i := 23) rfl)), rfl, hnm⟩) (hw _ (List.mem_of_getElem? (i := 10) rfl)) (ty := (.array .byte)) (by decide) rfl rfl (g := (mkF m 6 #[.val (.ref o0), .val (.ref o1), .val (.int p2)] [(.ref o1), (.ref o0)])) rfl rfl (hb hby d4_6)
  have F2 := F_u_value.same W2
  have K3 : Keep h0 h2 [o0] := ((Keep.refl h0 [o0]).wr W2 (Or.inl (List.mem_of_getElem? (i := 0) rfl)))
  have z3 : n0 ≤ h2.size := (Nat.le_trans Z0 (Keep.of_wr W2).1)
  have N2 := Fr.snoc X2 N0 g_o0
  refine Dn.by (U' := T2.setTop (mkF m 9 #[.val (.ref o0), .val (.ref o1), .val (.int p2)] [])) st2 ?_
  refine Dn.by (U' := T2.setTop (mkF m 10 #[.val (.ref o0), .val (.ref o1), .val (.int p2)] [(.ref o0)])) (fun _ k => XS.aloadN X2.here hx rfl (hb hby d4_9) rfl rfl k) ?_
  refine Dn.by (U' := T2.setTop (mkF m 11 #[.val (.ref o0), .val (.ref o1), .val (.int p2)] [(.int p2), (.ref o0)])) (fun _ k => XS.iloadN X2.here hx rfl (hb hby d4_10) rfl k) ?_
  obtain ⟨T4, h4, X4, e4, W4, st4⟩ := putFN X2 hx hZ hown (hw _ (List.mem_of_getElem? (i := 24) rfl)) Via.refl e2 (F_u_coder.other W2 (Or.inr (slot_ne (Or.inr (hw _ (List.mem_of_getElem? (i := 25) rfl))) (Or.inr (hw _ (List.mem_of_getElem? (i := 23) rfl))) (by decide) (t := .byte) (t' := (.array .byte)) (by decide) (by decide)))) (E_o0.wr W2) (Or.inr ⟨(hw _ (List.mem_of_getElem? (i := 25) rfl)), rfl, hnm⟩) (hw _ (List.mem_of_getElem? (i := 10) rfl)) (ty := .byte) (v' := (.int (nar .byte p2))) (by decide) rfl (fits_nar_byte _) (g := (mkF m 11 #[.val (.ref o0), .val (.ref o1), .val (.int p2)] [(.int p2), (.ref o0)])) rfl rfl (hb hby d4_11)
  have F4 := (F_u_coder.other W2 (Or.inr (slot_ne (Or.inr (hw _ (List.mem_of_getElem? (i := 25) rfl))) (Or.inr (hw _ (List.mem_of_getElem? (i := 23) rfl))) (by decide) (t := .byte) (t' := (.array .byte)) (by decide) (by decide)))).same W4
  have K5 : Keep h0 h4 [o0] := (K3.wr W4 (Or.inl (List.mem_of_getElem? (i := 0) rfl)))
  have z5 : n0 ≤ h4.size := (Nat.le_trans z3 (Keep.of_wr W4).1)
  have N4 := Fr.snoc X4 N2 g_o0
  refine Dn.by (U' := T4.setTop (mkF m 14 #[.val (.ref o0), .val (.ref o1), .val (.int p2)] [])) st4 ?_
  refine Dn.out X4 (v := none) (fun _ => rfl) (BodyLoose.notSynchronized Bd) (fun _ hr => X4.returnOut hx Bd.returns (hb hby d4_14) hr) (by decide) (by decide) ?_
  rw [e4]
  exact ⟨rfl, N4, K5, ((E_o0.wr W2).wr W4), (F2.other W4 (Or.inr (slot_ne (Or.inr (hw _ (List.mem_of_getElem? (i := 23) rfl))) (Or.inr (hw _ (List.mem_of_getElem? (i := 25) rfl))) (by decide) (t := (.array .byte)) (t' := .byte) (by decide) (by decide)))), F4⟩
theorem own_c (x : Int32) : ¬ (255 : Int32) < (x &&& (255 : Int32)).toUInt32.toUInt16.toUInt32.toInt32 := by
  have e := i2c_mask x
  have m := c_mask x (255 : Int32) 8 (by decide) (by decide)
  intro q
  rw [e] at q
  have q' := Int32.lt_iff_toInt_lt.mp q
  have l : (255 : Int32).toInt = 255 := by decide
  omega
abbrev Rm1 : Room := { frames := 2, cells := 2, slots := 5, locals := 27 }
theorem ef_1 (m : MethodId) (p0 : Int32) : entryFrame m #[(.int p0)] 1 = mkF m 0 #[.val (.int p0)] [] := by first | (simp [entryFrame, mkF, argsToLocals, Value.category]; done) | rfl
def Q1 (Z : State) (p0 : Int32) (s_COMPACT_STRINGS : Int32) (h0 : Heap) (n0 : Nat) (v : Option Value) (h : Heap) (L : List Loc) : Prop := ∃ b, v = some (.ref b) ∧ Fr n0 L ∧ h0.size ≤ b ∧ Keep h0 h [] ∧ Exa Z h b "java/lang/String"
set_option maxRecDepth 65536 in
set_option maxHeartbeats 40000000 in
theorem rm1 (l : Launch) (Z : State) (a0 : Array Value) (hw : ∀ d ∈ tables_1, d.before a0 Z = true) (ws : List Jvm.Cond) (p0 : Int32) (s_COMPACT_STRINGS : Int32) (h0 : Heap) (n0 : Nat) (Z0 : n0 ≤ h0.size) (S_COMPACT_STRINGS : Sta Z h0 "java/lang/String" "COMPACT_STRINGS" "Z" (.int s_COMPACT_STRINGS)) (hcs : ¬ s_COMPACT_STRINGS = (0 : Int32)) (hp0 : ¬ (255 : Int32) < p0) :
    MetFree l (⟨"java/lang/String", "valueOf", "(C)Ljava/lang/String;"⟩ : MethodName) (head1 (Jvm.Cond.code (⟨"java/lang/String", "valueOf", "(C)Ljava/lang/String;"⟩ : MethodName) jdk_42_method_139_code 1 (some (.object "java/lang/String")) :: ws) Rm1) (fun a U => a = #[(.int p0)] ∧ Z.Warmed39 U.vm ∧ U.heap = h0) (fun _ _ _ _ _ => True) (fun _ U o U' => ∃ v L, o = .returned v ∧ Q1 Z p0 s_COMPACT_STRINGS h0 n0 v U'.heap L ∧ FrameEnd U o U' L Rm1.cells Rm1.slots) := by
  refine MetFree.of_bodySF (plainFor_of_name pn1) hisR ?_
  intro p e s m args below meth c s₁ Bd hml0 hP hK
  obtain ⟨rfl, hZ, hh⟩ := hP
  have hx := Bd.exec
  have hby := Bd.bytes
  have hml : c.maxLocals = 1 := hml0
  have hown : s.vm.findClass "java/lang/String" = some m.cls := findClass_of_methodNamed Bd.named
  have hnm := (name_of_methodNamed Bd.named Bd.method).1
  have X0 : Stand p l e Rm1 s m #[(.int p0)] below meth c s₁ [] 0 0 := Stand.of_body Bd
  have e0 : s₁.heap = h0 := by rw [← hh, Bd.state]; rfl
  have N0 := Fr.nil n0
  show Dn p e below s Rm1.cells Rm1.slots (Q1 Z p0 s_COMPACT_STRINGS h0 n0) (s₁.setTop (entryFrame m #[(.int p0)] 1))
  rw [ef_1]
  obtain ⟨T1, X1, e1, st1⟩ := getS2 X0 hx hZ (a0 := a0) hown (host := "") (Or.inl (hw _ (List.mem_of_getElem? (i := 4) rfl))) Via.refl e0 S_COMPACT_STRINGS (g := (mkF m 0 #[.val (.int p0)] [])) rfl (hb hby d1_0)
  refine Dn.by (U' := T1.setTop (mkF m 3 #[.val (.int p0)] [(.int s_COMPACT_STRINGS)])) st1 ?_
  refine Dn.by (U' := T1.setTop (mkF m 6 #[.val (.int p0)] [])) (fun _ k => XS.ifNo X1.here hx rfl (hb hby d1_3) rfl ((if0 _ _).trans (feq hcs).1) k) ?_
  refine Dn.by (U' := T1.setTop (mkF m 7 #[.val (.int p0)] [(.int p0)])) (fun _ k => XS.iloadN X1.here hx rfl (hb hby d1_6) rfl k) ?_
  obtain ⟨_, _, ⟨T2, L2, k2, n2⟩, -, X2, ⟨Lc2, hQ2, l2, y2, z2⟩, st2⟩ := Jvm.LawKit.callS X1 hx (y := (⟨"java/lang/StringLatin1", "canEncode", "(C)Z"⟩ : MethodName)) hown (mvT hZ (hw _ (List.mem_of_getElem? (i := 5) rfl))) (mvT hZ (hw _ (List.mem_of_getElem? (i := 6) rfl))) (mvT hZ (hw _ (List.mem_of_getElem? (i := 7) rfl))) (mvT hZ (hw _ (List.mem_of_getElem? (i := 8) rfl))) (by decide) (backOf (W := 0) (rm2 l Z a0 hw [] p0  h0 n0 Z0 ) hZ (hw _ (List.mem_of_getElem? (i := 8) rfl)) (hw _ (List.mem_of_getElem? (i := 7) rfl)) (by decide) (by decide)) (g := (mkF m 7 #[.val (.int p0)] [(.int p0)])) rfl (by rw [hml]; rfl) (argsL := [(.int p0)]) (rest := []) (lenOf pd0 rfl) rfl (by show 2 * 0 + _ ≤ _; exact Nat.le_of_eq rfl) (hb hby d1_7) (fun _ _ => ⟨rfl, e1, (by decide : 0 + 0 ≤ _), (by decide : 0 + 0 ≤ _)⟩)
  dsimp only [Pt.U, Pt.locs, Pt.cells, Pt.slots] at X2 l2 y2 z2 st2 hQ2
  subst l2 y2 z2
  obtain ⟨rfl, N2q, e2⟩ := hQ2
  have N2 := Fr.app N0 N2q
  refine Dn.by (U' := T2.setTop (mkF m 10 #[.val (.int p0)] [(.int (canE p0))])) st2 ?_
  rw [show (canE p0) = (1 : Int32) from if_neg hp0]
  refine Dn.by (U' := T2.setTop (mkF m 13 #[.val (.int p0)] [])) (fun _ k => XS.ifNo X2.here hx rfl (hb hby d1_10) rfl (by decide) k) ?_
  obtain ⟨T3, h3, X3, e3, E3, A3, D3, -, st3⟩ := newO X2 hx hZ hown (hw _ (List.mem_of_getElem? (i := 9) rfl)) (hw _ (List.mem_of_getElem? (i := 10) rfl)) (hw _ (List.mem_of_getElem? (i := 2) rfl)) e2 (g := (mkF m 13 #[.val (.int p0)] [])) rfl (hb hby d1_13) (by decide) (by decide)
  obtain ⟨b3, g3⟩ : ∃ z, z = h0.size := ⟨_, rfl⟩
  rw [← g3] at A3 D3 st3
  have g_b3 : n0 ≤ b3 := Nat.le_trans Z0 (Nat.le_of_eq g3.symm)
  have sz_b3 : h0.size ≤ b3 := Nat.le_trans (Keep.refl h0 []).1 (Nat.le_of_eq g3.symm)
  have K4 : Keep h0 h3 [] := ((Keep.refl h0 []).ext E3)
  have z4 : n0 ≤ h3.size := (Nat.le_trans Z0 E3.1)
  have F_value_b3 : Fld Z h3 b3 "java/lang/String" "value" "[B" .null := D3 (Or.inr (hw _ (List.mem_of_getElem? (i := 23) rfl))) (ty := (.array .byte)) (by decide)
  have F_coder_b3 : Fld Z h3 b3 "java/lang/String" "coder" "B" (.int (0 : Int32)) := D3 (Or.inr (hw _ (List.mem_of_getElem? (i := 25) rfl))) (ty := .byte) (by decide)
  refine Dn.by (U' := T3.setTop (mkF m 16 #[.val (.int p0)] [(.ref b3)])) st3 ?_
  refine Dn.by (U' := T3.setTop (mkF m 17 #[.val (.int p0)] [(.ref b3), (.ref b3)])) (fun _ k => XS.dup X3.here hx rfl (hb hby d1_16) rfl rfl k) ?_
  refine Dn.by (U' := T3.setTop (mkF m 18 #[.val (.int p0)] [(.int p0), (.ref b3), (.ref b3)])) (fun _ k => XS.iloadN X3.here hx rfl (hb hby d1_17) rfl k) ?_
  obtain ⟨_, _, ⟨T5, L5, k5, n5⟩, -, X5, ⟨Lc5, hQ5, l5, y5, z5⟩, st5⟩ := Jvm.LawKit.callS X3 hx (y := (⟨"java/lang/StringLatin1", "toBytes", "(C)[B"⟩ : MethodName)) hown (mvT hZ (hw _ (List.mem_of_getElem? (i := 11) rfl))) (mvT hZ (hw _ (List.mem_of_getElem? (i := 12) rfl))) (mvT hZ (hw _ (List.mem_of_getElem? (i := 7) rfl))) (mvT hZ (hw _ (List.mem_of_getElem? (i := 13) rfl))) (by decide) (backOf (W := 2) (rm3 l Z a0 hw [] p0  h3 n0 z4 ) hZ (hw _ (List.mem_of_getElem? (i := 13) rfl)) (hw _ (List.mem_of_getElem? (i := 7) rfl)) (by decide) (by decide)) (g := (mkF m 18 #[.val (.int p0)] [(.int p0), (.ref b3), (.ref b3)])) rfl (by rw [hml]; rfl) (argsL := [(.int p0)]) (rest := [(.ref b3), (.ref b3)]) (lenOf pd1 rfl) rfl (by show 2 * 0 + _ ≤ _; exact Nat.le_of_eq rfl) (hb hby d1_18) (fun _ _ => ⟨rfl, e3, (by decide : 1 + 1 ≤ _), (by decide : 4 + 1 ≤ _)⟩)
  dsimp only [Pt.U, Pt.locs, Pt.cells, Pt.slots] at X5 l5 y5 z5 st5 hQ5
  subst l5 y5 z5
  obtain ⟨b5, rfl, N5q, zz5, KK5⟩ := hQ5
  have N5 := Fr.app N2 N5q
  have g_b5 : n0 ≤ b5 := Nat.le_trans z4 zz5
  have sz_b5 : h0.size ≤ b5 := Nat.le_trans K4.1 zz5
  have ne_b3_b5 : b3 ≠ b5 := Nat.ne_of_lt (Nat.lt_of_lt_of_le A3.lt zz5)
  have K6 : Keep h0 T5.heap [] := (K4.trans KK5 all0)
  have z6 : n0 ≤ T5.heap.size := (Nat.le_trans z4 KK5.1)
  refine Dn.by (U' := T5.setTop (mkF m 21 #[.val (.int p0)] [(.ref b5), (.ref b3), (.ref b3)])) st5 ?_
  refine Dn.by (U' := T5.setTop (mkF m 22 #[.val (.int p0)] [(.int (0 : Int32)), (.ref b5), (.ref b3), (.ref b3)])) (fun _ k => XS.iconst X5.here hx rfl (hb hby d1_21)  k) ?_
  obtain ⟨_, _, ⟨T7, L7, k7, n7⟩, -, X7, ⟨Lc7, hQ7, l7, y7, z7⟩, st7⟩ := X5.specialBack hx (y := (⟨"java/lang/String", "<init>", "([BB)V"⟩ : MethodName)) rfl hown (mvT hZ (hw _ (List.mem_of_getElem? (i := 15) rfl))) (mvT hZ (hw _ (List.mem_of_getElem? (i := 16) rfl))) (mvT hZ (hw _ (List.mem_of_getElem? (i := 18) rfl))) (by decide) (backOf (W := 1) (rm4 l Z a0 hw [] b3 b5 (0 : Int32) (.null : Value) ((.int (0 : Int32)) : Value) T5.heap n0 z6 g_b3 (A3.keep KK5) (F_value_b3.keep KK5 nin0) (F_coder_b3.keep KK5 nin0)) hZ (hw _ (List.mem_of_getElem? (i := 18) rfl)) (hw _ (List.mem_of_getElem? (i := 2) rfl)) (by decide) (by decide)) (g := (mkF m 22 #[.val (.int p0)] [(.int (0 : Int32)), (.ref b5), (.ref b3), (.ref b3)])) rfl (by rw [hml]; rfl) (Steps.refl _) (a := b3) (argsL := [(.ref b5), (.int (0 : Int32))]) (rest := [(.ref b3)]) (lenOf pd2 rfl) rfl (by show 2 * 0 + _ ≤ _; exact Nat.le_of_eq rfl) (hb hby d1_22) (fun _ _ => ⟨rfl, rfl, (by decide : 2 + 0 ≤ _), (by decide : 5 + 0 ≤ _)⟩)
  dsimp only [Pt.U, Pt.locs, Pt.cells, Pt.slots] at X7 l7 y7 z7 st7 hQ7
  subst l7 y7 z7
  obtain ⟨rfl, N7q, KK7, EE7, FF7_0, FF7_1⟩ := hQ7
  have N7 := Fr.app N5 N7q
  have K8 : Keep h0 T7.heap [] := (K6.trans KK7 (allS (Or.inr sz_b3) all0))
  have z8 : n0 ≤ T7.heap.size := (Nat.le_trans z6 KK7.1)
  refine Dn.by (U' := T7.setTop (mkF m 25 #[.val (.int p0)] [(.ref b3)])) (fun _ k => st7.trans k) ?_
  refine Dn.out X7 (v := (some (.ref b3))) (fun h => by rw [Bd.returns] at h; cases h) (BodyLoose.notSynchronized Bd) (fun _ hr => retOut X7 hx Bd.returns rfl (Or.inr (Or.inr (Or.inr (Or.inr ⟨rfl, rfl, rfl⟩)))) (hb hby d1_25) hr) (by decide) (by decide) ?_
  exact ⟨b3, rfl, N7, sz_b3, K8, ((A3.keep KK5).keep KK7)⟩
abbrev Rm7 : Room := { frames := 1, cells := 0, slots := 0, locals := 12 }
theorem ef_7 (m : MethodId) (o0 : Addr) : entryFrame m #[(.ref o0)] 1 = mkF m 0 #[.val (.ref o0)] [] := by first | (simp [entryFrame, mkF, argsToLocals, Value.category]; done) | rfl
def Q7 (Z : State) (o0 : Addr) (h0 : Heap) (n0 : Nat) (v : Option Value) (h : Heap) (L : List Loc) : Prop := v = none ∧ Fr n0 L ∧ h = h0
set_option maxRecDepth 65536 in
set_option maxHeartbeats 40000000 in
theorem rm7 (l : Launch) (Z : State) (a0 : Array Value) (hw : ∀ d ∈ tables_1, d.before a0 Z = true) (ws : List Jvm.Cond) (o0 : Addr) (h0 : Heap) (n0 : Nat) (Z0 : n0 ≤ h0.size)  :
    MetFree l (⟨"java/lang/Record", "<init>", "()V"⟩ : MethodName) (head1 (Jvm.Cond.code (⟨"java/lang/Record", "<init>", "()V"⟩ : MethodName) jdk_30_method_1_code 1 none :: ws) Rm7) (fun a U => a = #[(.ref o0)] ∧ Z.Warmed39 U.vm ∧ U.heap = h0) (fun _ _ _ _ _ => True) (fun _ U o U' => ∃ v L, o = .returned v ∧ Q7 Z o0 h0 n0 v U'.heap L ∧ FrameEnd U o U' L Rm7.cells Rm7.slots) := by
  refine MetFree.of_bodySF (plainFor_of_name pn2) hisR ?_
  intro p e s m args below meth c s₁ Bd hml0 hP hK
  obtain ⟨rfl, hZ, hh⟩ := hP
  have hx := Bd.exec
  have hby := Bd.bytes
  have hml : c.maxLocals = 1 := hml0
  have hown : s.vm.findClass "java/lang/Record" = some m.cls := findClass_of_methodNamed Bd.named
  have hnm := (name_of_methodNamed Bd.named Bd.method).1
  have X0 : Stand p l e Rm7 s m #[(.ref o0)] below meth c s₁ [] 0 0 := Stand.of_body Bd
  have e0 : s₁.heap = h0 := by rw [← hh, Bd.state]; rfl
  have N0 := Fr.nil n0
  show Dn p e below s Rm7.cells Rm7.slots (Q7 Z o0 h0 n0) (s₁.setTop (entryFrame m #[(.ref o0)] 1))
  rw [ef_7]
  refine Dn.by (U' := s₁.setTop (mkF m 1 #[.val (.ref o0)] [(.ref o0)])) (fun _ k => XS.aloadN X0.here hx rfl (hb hby d7_0) rfl rfl k) ?_
  obtain ⟨T1, X1, e1, st1⟩ := initO X0 hx hZ hown (hw _ (List.mem_of_getElem? (i := 37) rfl)) (hw _ (List.mem_of_getElem? (i := 20) rfl)) (hw _ (List.mem_of_getElem? (i := 21) rfl)) e0 (g := (mkF m 1 #[.val (.ref o0)] [(.ref o0)])) rfl (by rw [hml]; rfl) rfl (hb hby d7_1) (by decide) (W := 0) (by show 2 * 0 + _ ≤ _; exact Nat.le_of_eq rfl) (by decide)
  refine Dn.by (U' := T1.setTop (mkF m 4 #[.val (.ref o0)] [])) st1 ?_
  refine Dn.out X1 (v := none) (fun _ => rfl) (BodyLoose.notSynchronized Bd) (fun _ hr => X1.returnOut hx Bd.returns (hb hby d7_4) hr) (by decide) (by decide) ?_
  rw [e1]
  exact ⟨rfl, N0, rfl⟩
abbrev Rm6 : Room := { frames := 2, cells := 0, slots := 0, locals := 24 }
theorem ef_6 (m : MethodId) (o0 : Addr) (o1 : Addr) (o2 : Addr) (q3 : Int64) (p4 : Int32) : entryFrame m #[(.ref o0), (.ref o1), (.ref o2), (.long q3), (.int p4)] 6 = mkF m 0 #[.val (.ref o0), .val (.ref o1), .val (.ref o2), .val (.long q3), .second, .val (.int p4)] [] := by first | (simp [entryFrame, mkF, argsToLocals, Value.category]; done) | rfl
def Q6 (Z : State) (o0 : Addr) (o1 : Addr) (o2 : Addr) (q3 : Int64) (p4 : Int32) (u_target : Value) (u_contentType : Value) (u_contentLength : Value) (u_transferCoded : Value) (h0 : Heap) (n0 : Nat) (v : Option Value) (h : Heap) (L : List Loc) : Prop := v = none ∧ Fr n0 L ∧ Keep h0 h [o0] ∧ Exa Z h o0 "formwire/cli/RequestHead" ∧ Fld Z h o0 "formwire/cli/RequestHead" "target" "Ljava/lang/String;" (.ref o1) ∧ Fld Z h o0 "formwire/cli/RequestHead" "contentType" "Ljava/lang/String;" (.ref o2) ∧ Fld Z h o0 "formwire/cli/RequestHead" "contentLength" "J" (.long q3) ∧ Fld Z h o0 "formwire/cli/RequestHead" "transferCoded" "Z" (.int (nar .boolean p4))
set_option maxRecDepth 65536 in
set_option maxHeartbeats 40000000 in
theorem rm6 (l : Launch) (Z : State) (a0 : Array Value) (hw : ∀ d ∈ tables_1, d.before a0 Z = true) (ws : List Jvm.Cond) (o0 : Addr) (o1 : Addr) (o2 : Addr) (q3 : Int64) (p4 : Int32) (u_target : Value) (u_contentType : Value) (u_contentLength : Value) (u_transferCoded : Value) (h0 : Heap) (n0 : Nat) (Z0 : n0 ≤ h0.size) (g_o0 : n0 ≤ o0) (E_o0 : Exa Z h0 o0 "formwire/cli/RequestHead") (F_u_target : Fld Z h0 o0 "formwire/cli/RequestHead" "target" "Ljava/lang/String;" u_target) (F_u_contentType : Fld Z h0 o0 "formwire/cli/RequestHead" "contentType" "Ljava/lang/String;" u_contentType) (F_u_contentLength : Fld Z h0 o0 "formwire/cli/RequestHead" "contentLength" "J" u_contentLength) (F_u_transferCoded : Fld Z h0 o0 "formwire/cli/RequestHead" "transferCoded" "Z" u_transferCoded) :
    MetFree l (⟨"formwire/cli/RequestHead", "<init>", "(Ljava/lang/String;Ljava/lang/String;JZ)V"⟩ : MethodName) (head1 (Jvm.Cond.code (⟨"formwire/cli/RequestHead", "<init>", "(Ljava/lang/String;Ljava/lang/String;JZ)V"⟩ : MethodName) prog_42_method_1_code 6 none :: ws) Rm6) (fun a U => a = #[(.ref o0), (.ref o1), (.ref o2), (.long q3), (.int p4)] ∧ Z.Warmed39 U.vm ∧ U.heap = h0) (fun _ _ _ _ _ => True) (fun _ U o U' => ∃ v L, o = .returned v ∧ Q6 Z o0 o1 o2 q3 p4 u_target u_contentType u_contentLength u_transferCoded h0 n0 v U'.heap L ∧ FrameEnd U o U' L Rm6.cells Rm6.slots) := by
  refine MetFree.of_bodySF (plainFor_of_name pn3) hisR ?_
  intro p e s m args below meth c s₁ Bd hml0 hP hK
  obtain ⟨rfl, hZ, hh⟩ := hP
  have hx := Bd.exec
  have hby := Bd.bytes
  have hml : c.maxLocals = 6 := hml0
  have hown : s.vm.findClass "formwire/cli/RequestHead" = some m.cls := findClass_of_methodNamed Bd.named
  have hnm := (name_of_methodNamed Bd.named Bd.method).1
  have X0 : Stand p l e Rm6 s m #[(.ref o0), (.ref o1), (.ref o2), (.long q3), (.int p4)] below meth c s₁ [] 0 0 := Stand.of_body Bd
  have e0 : s₁.heap = h0 := by rw [← hh, Bd.state]; rfl
  have N0 := Fr.nil n0
  show Dn p e below s Rm6.cells Rm6.slots (Q6 Z o0 o1 o2 q3 p4 u_target u_contentType u_contentLength u_transferCoded h0 n0) (s₁.setTop (entryFrame m #[(.ref o0), (.ref o1), (.ref o2), (.long q3), (.int p4)] 6))
  rw [ef_6]
  refine Dn.by (U' := s₁.setTop (mkF m 1 #[.val (.ref o0), .val (.ref o1), .val (.ref o2), .val (.long q3), .second, .val (.int p4)] [(.ref o0)])) (fun _ k => XS.aloadN X0.here hx rfl (hb hby d6_0) rfl rfl k) ?_
  obtain ⟨_, _, ⟨T1, L1, k1, n1⟩, -, X1, ⟨Lc1, hQ1, l1, y1, z1⟩, st1⟩ := X0.specialBack hx (y := (⟨"java/lang/Record", "<init>", "()V"⟩ : MethodName)) rfl hown (mvT hZ (hw _ (List.mem_of_getElem? (i := 32) rfl))) (mvT hZ (hw _ (List.mem_of_getElem? (i := 33) rfl))) (mvT hZ (hw _ (List.mem_of_getElem? (i := 36) rfl))) (by decide) (backOf (W := 0) (rm7 l Z a0 hw [] o0  h0 n0 Z0 ) hZ (hw _ (List.mem_of_getElem? (i := 36) rfl)) (hw _ (List.mem_of_getElem? (i := 35) rfl)) (by decide) (by decide)) (g := (mkF m 1 #[.val (.ref o0), .val (.ref o1), .val (.ref o2), .val (.long q3), .second, .val (.int p4)] [(.ref o0)])) rfl (by rw [hml]; rfl) (Steps.refl _) (a := o0) (argsL := []) (rest := []) (lenOf pd3 rfl) rfl (by show 2 * 0 + _ ≤ _; exact Nat.le_of_eq rfl) (hb hby d6_1) (fun _ _ => ⟨rfl, e0, (by decide : 0 + 0 ≤ _), (by decide : 0 + 0 ≤ _)⟩)
  dsimp only [Pt.U, Pt.locs, Pt.cells, Pt.slots] at X1 l1 y1 z1 st1 hQ1
  subst l1 y1 z1
  obtain ⟨rfl, N1q, e1⟩ := hQ1
  have N1 := Fr.app N0 N1q
  refine Dn.by (U' := T1.setTop (mkF m 4 #[.val (.ref o0), .val (.ref o1), .val (.ref o2), .val (.long q3), .second, .val (.int p4)] [])) (fun _ k => st1.trans k) ?_
  refine Dn.by (U' := T1.setTop (mkF m 5 #[.val (.ref o0), .val (.ref o1), .val (.ref o2), .val (.long q3), .second, .val (.int p4)] [(.ref o0)])) (fun _ k => XS.aloadN X1.here hx rfl (hb hby d6_4) rfl rfl k) ?_
  refine Dn.by (U' := T1.setTop (mkF m 6 #[.val (.ref o0), .val (.ref o1), .val (.ref o2), .val (.long q3), .second, .val (.int p4)] [(.ref o1), (.ref o0)])) (fun _ k => XS.aloadN X1.here hx rfl (hb hby d6_5) rfl rfl k) ?_
  obtain ⟨T2, h2, X2, e2, W2, st2⟩ := putF X1 hx hZ hown (host := "") (Or.inl (hw _ (List.mem_of_getElem? (i := 38) rfl))) Via.refl e1 F_u_target E_o0 (Or.inr ⟨(hw _ (List.mem_of_getElem? (i := 39) rfl)), rfl, hnm⟩) (hw _ (List.mem_of_getElem? (i := 27) rfl)) (ty := (.object "java/lang/String")) (by decide) rfl rfl (g := (mkF m 6 #[.val (.ref o0), .val (.ref o1), .val (.ref o2), .val (.long q3), .second, .val (.int p4)] [(.ref o1), (.ref o0)])) rfl rfl (hb hby d6_6)
  have F2 := F_u_target.same W2
  have K3 : Keep h0 h2 [o0] := ((Keep.refl h0 [o0]).wr W2 (Or.inl (List.mem_of_getElem? (i := 0) rfl)))
  have z3 : n0 ≤ h2.size := (Nat.le_trans Z0 (Keep.of_wr W2).1)
  have N2 := Fr.snoc X2 N1 g_o0
  refine Dn.by (U' := T2.setTop (mkF m 9 #[.val (.ref o0), .val (.ref o1), .val (.ref o2), .val (.long q3), .second, .val (.int p4)] [])) st2 ?_
  refine Dn.by (U' := T2.setTop (mkF m 10 #[.val (.ref o0), .val (.ref o1), .val (.ref o2), .val (.long q3), .second, .val (.int p4)] [(.ref o0)])) (fun _ k => XS.aloadN X2.here hx rfl (hb hby d6_9) rfl rfl k) ?_
  refine Dn.by (U' := T2.setTop (mkF m 11 #[.val (.ref o0), .val (.ref o1), .val (.ref o2), .val (.long q3), .second, .val (.int p4)] [(.ref o2), (.ref o0)])) (fun _ k => XS.aloadN X2.here hx rfl (hb hby d6_10) rfl rfl k) ?_
  obtain ⟨T4, h4, X4, e4, W4, st4⟩ := putF X2 hx hZ hown (host := "") (Or.inl (hw _ (List.mem_of_getElem? (i := 40) rfl))) Via.refl e2 (F_u_contentType.other W2 (Or.inr (slot_ne (Or.inr (hw _ (List.mem_of_getElem? (i := 41) rfl))) (Or.inr (hw _ (List.mem_of_getElem? (i := 39) rfl))) (by decide) (t := (.object "java/lang/String")) (t' := (.object "java/lang/String")) (by decide) (by decide)))) (E_o0.wr W2) (Or.inr ⟨(hw _ (List.mem_of_getElem? (i := 41) rfl)), rfl, hnm⟩) (hw _ (List.mem_of_getElem? (i := 27) rfl)) (ty := (.object "java/lang/String")) (by decide) rfl rfl (g := (mkF m 11 #[.val (.ref o0), .val (.ref o1), .val (.ref o2), .val (.long q3), .second, .val (.int p4)] [(.ref o2), (.ref o0)])) rfl rfl (hb hby d6_11)
  have F4 := (F_u_contentType.other W2 (Or.inr (slot_ne (Or.inr (hw _ (List.mem_of_getElem? (i := 41) rfl))) (Or.inr (hw _ (List.mem_of_getElem? (i := 39) rfl))) (by decide) (t := (.object "java/lang/String")) (t' := (.object "java/lang/String")) (by decide) (by decide)))).same W4
  have K5 : Keep h0 h4 [o0] := (K3.wr W4 (Or.inl (List.mem_of_getElem? (i := 0) rfl)))
  have z5 : n0 ≤ h4.size := (Nat.le_trans z3 (Keep.of_wr W4).1)
  have N4 := Fr.snoc X4 N2 g_o0
  refine Dn.by (U' := T4.setTop (mkF m 14 #[.val (.ref o0), .val (.ref o1), .val (.ref o2), .val (.long q3), .second, .val (.int p4)] [])) st4 ?_
  refine Dn.by (U' := T4.setTop (mkF m 15 #[.val (.ref o0), .val (.ref o1), .val (.ref o2), .val (.long q3), .second, .val (.int p4)] [(.ref o0)])) (fun _ k => XS.aloadN X4.here hx rfl (hb hby d6_14) rfl rfl k) ?_
  refine Dn.by (U' := T4.setTop (mkF m 16 #[.val (.ref o0), .val (.ref o1), .val (.ref o2), .val (.long q3), .second, .val (.int p4)] [(.long q3), (.ref o0)])) (fun _ k => XS.lloadN X4.here hx rfl (hb hby d6_15) rfl k) ?_
  obtain ⟨T6, h6, X6, e6, W6, st6⟩ := putF X4 hx hZ hown (host := "") (Or.inl (hw _ (List.mem_of_getElem? (i := 42) rfl))) Via.refl e4 ((F_u_contentLength.other W2 (Or.inr (slot_ne (Or.inr (hw _ (List.mem_of_getElem? (i := 43) rfl))) (Or.inr (hw _ (List.mem_of_getElem? (i := 39) rfl))) (by decide) (t := .long) (t' := (.object "java/lang/String")) (by decide) (by decide)))).other W4 (Or.inr (slot_ne (Or.inr (hw _ (List.mem_of_getElem? (i := 43) rfl))) (Or.inr (hw _ (List.mem_of_getElem? (i := 41) rfl))) (by decide) (t := .long) (t' := (.object "java/lang/String")) (by decide) (by decide)))) ((E_o0.wr W2).wr W4) (Or.inr ⟨(hw _ (List.mem_of_getElem? (i := 43) rfl)), rfl, hnm⟩) (hw _ (List.mem_of_getElem? (i := 27) rfl)) (ty := .long) (by decide) rfl rfl (g := (mkF m 16 #[.val (.ref o0), .val (.ref o1), .val (.ref o2), .val (.long q3), .second, .val (.int p4)] [(.long q3), (.ref o0)])) rfl rfl (hb hby d6_16)
  have F6 := ((F_u_contentLength.other W2 (Or.inr (slot_ne (Or.inr (hw _ (List.mem_of_getElem? (i := 43) rfl))) (Or.inr (hw _ (List.mem_of_getElem? (i := 39) rfl))) (by decide) (t := .long) (t' := (.object "java/lang/String")) (by decide) (by decide)))).other W4 (Or.inr (slot_ne (Or.inr (hw _ (List.mem_of_getElem? (i := 43) rfl))) (Or.inr (hw _ (List.mem_of_getElem? (i := 41) rfl))) (by decide) (t := .long) (t' := (.object "java/lang/String")) (by decide) (by decide)))).same W6
  have K7 : Keep h0 h6 [o0] := (K5.wr W6 (Or.inl (List.mem_of_getElem? (i := 0) rfl)))
  have z7 : n0 ≤ h6.size := (Nat.le_trans z5 (Keep.of_wr W6).1)
  have N6 := Fr.snoc X6 N4 g_o0
  refine Dn.by (U' := T6.setTop (mkF m 19 #[.val (.ref o0), .val (.ref o1), .val (.ref o2), .val (.long q3), .second, .val (.int p4)] [])) st6 ?_
  refine Dn.by (U' := T6.setTop (mkF m 20 #[.val (.ref o0), .val (.ref o1), .val (.ref o2), .val (.long q3), .second, .val (.int p4)] [(.ref o0)])) (fun _ k => XS.aloadN X6.here hx rfl (hb hby d6_19) rfl rfl k) ?_
  refine Dn.by (U' := T6.setTop (mkF m 22 #[.val (.ref o0), .val (.ref o1), .val (.ref o2), .val (.long q3), .second, .val (.int p4)] [(.int p4), (.ref o0)])) (fun _ k => XS.iload X6.here hx rfl (hb hby d6_20) rfl k) ?_
  obtain ⟨T8, h8, X8, e8, W8, st8⟩ := putFN X6 hx hZ hown (hw _ (List.mem_of_getElem? (i := 44) rfl)) Via.refl e6 (((F_u_transferCoded.other W2 (Or.inr (slot_ne (Or.inr (hw _ (List.mem_of_getElem? (i := 45) rfl))) (Or.inr (hw _ (List.mem_of_getElem? (i := 39) rfl))) (by decide) (t := .boolean) (t' := (.object "java/lang/String")) (by decide) (by decide)))).other W4 (Or.inr (slot_ne (Or.inr (hw _ (List.mem_of_getElem? (i := 45) rfl))) (Or.inr (hw _ (List.mem_of_getElem? (i := 41) rfl))) (by decide) (t := .boolean) (t' := (.object "java/lang/String")) (by decide) (by decide)))).other W6 (Or.inr (slot_ne (Or.inr (hw _ (List.mem_of_getElem? (i := 45) rfl))) (Or.inr (hw _ (List.mem_of_getElem? (i := 43) rfl))) (by decide) (t := .boolean) (t' := .long) (by decide) (by decide)))) (((E_o0.wr W2).wr W4).wr W6) (Or.inr ⟨(hw _ (List.mem_of_getElem? (i := 45) rfl)), rfl, hnm⟩) (hw _ (List.mem_of_getElem? (i := 27) rfl)) (ty := .boolean) (v' := (.int (nar .boolean p4))) (by decide) rfl (fits_nar_bool _) (g := (mkF m 22 #[.val (.ref o0), .val (.ref o1), .val (.ref o2), .val (.long q3), .second, .val (.int p4)] [(.int p4), (.ref o0)])) rfl rfl (hb hby d6_22)
  have F8 := (((F_u_transferCoded.other W2 (Or.inr (slot_ne (Or.inr (hw _ (List.mem_of_getElem? (i := 45) rfl))) (Or.inr (hw _ (List.mem_of_getElem? (i := 39) rfl))) (by decide) (t := .boolean) (t' := (.object "java/lang/String")) (by decide) (by decide)))).other W4 (Or.inr (slot_ne (Or.inr (hw _ (List.mem_of_getElem? (i := 45) rfl))) (Or.inr (hw _ (List.mem_of_getElem? (i := 41) rfl))) (by decide) (t := .boolean) (t' := (.object "java/lang/String")) (by decide) (by decide)))).other W6 (Or.inr (slot_ne (Or.inr (hw _ (List.mem_of_getElem? (i := 45) rfl))) (Or.inr (hw _ (List.mem_of_getElem? (i := 43) rfl))) (by decide) (t := .boolean) (t' := .long) (by decide) (by decide)))).same W8
  have K9 : Keep h0 h8 [o0] := (K7.wr W8 (Or.inl (List.mem_of_getElem? (i := 0) rfl)))
  have z9 : n0 ≤ h8.size := (Nat.le_trans z7 (Keep.of_wr W8).1)
  have N8 := Fr.snoc X8 N6 g_o0
  refine Dn.by (U' := T8.setTop (mkF m 25 #[.val (.ref o0), .val (.ref o1), .val (.ref o2), .val (.long q3), .second, .val (.int p4)] [])) st8 ?_
  refine Dn.out X8 (v := none) (fun _ => rfl) (BodyLoose.notSynchronized Bd) (fun _ hr => X8.returnOut hx Bd.returns (hb hby d6_25) hr) (by decide) (by decide) ?_
  rw [e8]
  exact ⟨rfl, N8, K9, ((((E_o0.wr W2).wr W4).wr W6).wr W8), (((F2.other W4 (Or.inr (slot_ne (Or.inr (hw _ (List.mem_of_getElem? (i := 39) rfl))) (Or.inr (hw _ (List.mem_of_getElem? (i := 41) rfl))) (by decide) (t := (.object "java/lang/String")) (t' := (.object "java/lang/String")) (by decide) (by decide)))).other W6 (Or.inr (slot_ne (Or.inr (hw _ (List.mem_of_getElem? (i := 39) rfl))) (Or.inr (hw _ (List.mem_of_getElem? (i := 43) rfl))) (by decide) (t := (.object "java/lang/String")) (t' := .long) (by decide) (by decide)))).other W8 (Or.inr (slot_ne (Or.inr (hw _ (List.mem_of_getElem? (i := 39) rfl))) (Or.inr (hw _ (List.mem_of_getElem? (i := 45) rfl))) (by decide) (t := (.object "java/lang/String")) (t' := .boolean) (by decide) (by decide)))), ((F4.other W6 (Or.inr (slot_ne (Or.inr (hw _ (List.mem_of_getElem? (i := 41) rfl))) (Or.inr (hw _ (List.mem_of_getElem? (i := 43) rfl))) (by decide) (t := (.object "java/lang/String")) (t' := .long) (by decide) (by decide)))).other W8 (Or.inr (slot_ne (Or.inr (hw _ (List.mem_of_getElem? (i := 41) rfl))) (Or.inr (hw _ (List.mem_of_getElem? (i := 45) rfl))) (by decide) (t := (.object "java/lang/String")) (t' := .boolean) (by decide) (by decide)))), (F6.other W8 (Or.inr (slot_ne (Or.inr (hw _ (List.mem_of_getElem? (i := 43) rfl))) (Or.inr (hw _ (List.mem_of_getElem? (i := 45) rfl))) (by decide) (t := .long) (t' := .boolean) (by decide) (by decide)))), F8⟩
abbrev Rm6n : Room := { frames := 2, cells := 0, slots := 0, locals := 24 }
theorem ef_6n (m : MethodId) (o0 : Addr) (o1 : Addr) (q3 : Int64) (p4 : Int32) : entryFrame m #[(.ref o0), (.ref o1), .null, (.long q3), (.int p4)] 6 = mkF m 0 #[.val (.ref o0), .val (.ref o1), .val .null, .val (.long q3), .second, .val (.int p4)] [] := by first | (simp [entryFrame, mkF, argsToLocals, Value.category]; done) | rfl
def Q6n (Z : State) (o0 : Addr) (o1 : Addr) (q3 : Int64) (p4 : Int32) (u_target : Value) (u_contentType : Value) (u_contentLength : Value) (u_transferCoded : Value) (h0 : Heap) (n0 : Nat) (v : Option Value) (h : Heap) (L : List Loc) : Prop := v = none ∧ Fr n0 L ∧ Keep h0 h [o0] ∧ Exa Z h o0 "formwire/cli/RequestHead" ∧ Fld Z h o0 "formwire/cli/RequestHead" "target" "Ljava/lang/String;" (.ref o1) ∧ Fld Z h o0 "formwire/cli/RequestHead" "contentType" "Ljava/lang/String;" .null ∧ Fld Z h o0 "formwire/cli/RequestHead" "contentLength" "J" (.long q3) ∧ Fld Z h o0 "formwire/cli/RequestHead" "transferCoded" "Z" (.int (nar .boolean p4))
set_option maxRecDepth 65536 in
set_option maxHeartbeats 40000000 in
theorem rm6n (l : Launch) (Z : State) (a0 : Array Value) (hw : ∀ d ∈ tables_1, d.before a0 Z = true) (ws : List Jvm.Cond) (o0 : Addr) (o1 : Addr) (q3 : Int64) (p4 : Int32) (u_target : Value) (u_contentType : Value) (u_contentLength : Value) (u_transferCoded : Value) (h0 : Heap) (n0 : Nat) (Z0 : n0 ≤ h0.size) (g_o0 : n0 ≤ o0) (E_o0 : Exa Z h0 o0 "formwire/cli/RequestHead") (F_u_target : Fld Z h0 o0 "formwire/cli/RequestHead" "target" "Ljava/lang/String;" u_target) (F_u_contentType : Fld Z h0 o0 "formwire/cli/RequestHead" "contentType" "Ljava/lang/String;" u_contentType) (F_u_contentLength : Fld Z h0 o0 "formwire/cli/RequestHead" "contentLength" "J" u_contentLength) (F_u_transferCoded : Fld Z h0 o0 "formwire/cli/RequestHead" "transferCoded" "Z" u_transferCoded) :
    MetFree l (⟨"formwire/cli/RequestHead", "<init>", "(Ljava/lang/String;Ljava/lang/String;JZ)V"⟩ : MethodName) (head1 (Jvm.Cond.code (⟨"formwire/cli/RequestHead", "<init>", "(Ljava/lang/String;Ljava/lang/String;JZ)V"⟩ : MethodName) prog_42_method_1_code 6 none :: ws) Rm6n) (fun a U => a = #[(.ref o0), (.ref o1), .null, (.long q3), (.int p4)] ∧ Z.Warmed39 U.vm ∧ U.heap = h0) (fun _ _ _ _ _ => True) (fun _ U o U' => ∃ v L, o = .returned v ∧ Q6n Z o0 o1 q3 p4 u_target u_contentType u_contentLength u_transferCoded h0 n0 v U'.heap L ∧ FrameEnd U o U' L Rm6n.cells Rm6n.slots) := by
  refine MetFree.of_bodySF (plainFor_of_name pn3) hisR ?_
  intro p e s m args below meth c s₁ Bd hml0 hP hK
  obtain ⟨rfl, hZ, hh⟩ := hP
  have hx := Bd.exec
  have hby := Bd.bytes
  have hml : c.maxLocals = 6 := hml0
  have hown : s.vm.findClass "formwire/cli/RequestHead" = some m.cls := findClass_of_methodNamed Bd.named
  have hnm := (name_of_methodNamed Bd.named Bd.method).1
  have X0 : Stand p l e Rm6n s m #[(.ref o0), (.ref o1), .null, (.long q3), (.int p4)] below meth c s₁ [] 0 0 := Stand.of_body Bd
  have e0 : s₁.heap = h0 := by rw [← hh, Bd.state]; rfl
  have N0 := Fr.nil n0
  show Dn p e below s Rm6n.cells Rm6n.slots (Q6n Z o0 o1 q3 p4 u_target u_contentType u_contentLength u_transferCoded h0 n0) (s₁.setTop (entryFrame m #[(.ref o0), (.ref o1), .null, (.long q3), (.int p4)] 6))
  rw [ef_6n]
  refine Dn.by (U' := s₁.setTop (mkF m 1 #[.val (.ref o0), .val (.ref o1), .val .null, .val (.long q3), .second, .val (.int p4)] [(.ref o0)])) (fun _ k => XS.aloadN X0.here hx rfl (hb hby d6_0) rfl rfl k) ?_
  obtain ⟨_, _, ⟨T1, L1, k1, n1⟩, -, X1, ⟨Lc1, hQ1, l1, y1, z1⟩, st1⟩ := X0.specialBack hx (y := (⟨"java/lang/Record", "<init>", "()V"⟩ : MethodName)) rfl hown (mvT hZ (hw _ (List.mem_of_getElem? (i := 32) rfl))) (mvT hZ (hw _ (List.mem_of_getElem? (i := 33) rfl))) (mvT hZ (hw _ (List.mem_of_getElem? (i := 36) rfl))) (by decide) (backOf (W := 0) (rm7 l Z a0 hw [] o0  h0 n0 Z0 ) hZ (hw _ (List.mem_of_getElem? (i := 36) rfl)) (hw _ (List.mem_of_getElem? (i := 35) rfl)) (by decide) (by decide)) (g := (mkF m 1 #[.val (.ref o0), .val (.ref o1), .val .null, .val (.long q3), .second, .val (.int p4)] [(.ref o0)])) rfl (by rw [hml]; rfl) (Steps.refl _) (a := o0) (argsL := []) (rest := []) (lenOf pd3 rfl) rfl (by show 2 * 0 + _ ≤ _; exact Nat.le_of_eq rfl) (hb hby d6_1) (fun _ _ => ⟨rfl, e0, (by decide : 0 + 0 ≤ _), (by decide : 0 + 0 ≤ _)⟩)
  dsimp only [Pt.U, Pt.locs, Pt.cells, Pt.slots] at X1 l1 y1 z1 st1 hQ1
  subst l1 y1 z1
  obtain ⟨rfl, N1q, e1⟩ := hQ1
  have N1 := Fr.app N0 N1q
  refine Dn.by (U' := T1.setTop (mkF m 4 #[.val (.ref o0), .val (.ref o1), .val .null, .val (.long q3), .second, .val (.int p4)] [])) (fun _ k => st1.trans k) ?_
  refine Dn.by (U' := T1.setTop (mkF m 5 #[.val (.ref o0), .val (.ref o1), .val .null, .val (.long q3), .second, .val (.int p4)] [(.ref o0)])) (fun _ k => XS.aloadN X1.here hx rfl (hb hby d6_4) rfl rfl k) ?_
  refine Dn.by (U' := T1.setTop (mkF m 6 #[.val (.ref o0), .val (.ref o1), .val .null, .val (.long q3), .second, .val (.int p4)] [(.ref o1), (.ref o0)])) (fun _ k => XS.aloadN X1.here hx rfl (hb hby d6_5) rfl rfl k) ?_
  obtain ⟨T2, h2, X2, e2, W2, st2⟩ := putF X1 hx hZ hown (host := "") (Or.inl (hw _ (List.mem_of_getElem? (i := 38) rfl))) Via.refl e1 F_u_target E_o0 (Or.inr ⟨(hw _ (List.mem_of_getElem? (i := 39) rfl)), rfl, hnm⟩) (hw _ (List.mem_of_getElem? (i := 27) rfl)) (ty := (.object "java/lang/String")) (by decide) rfl rfl (g := (mkF m 6 #[.val (.ref o0), .val (.ref o1), .val .null, .val (.long q3), .second, .val (.int p4)] [(.ref o1), (.ref o0)])) rfl rfl (hb hby d6_6)
  have F2 := F_u_target.same W2
  have K3 : Keep h0 h2 [o0] := ((Keep.refl h0 [o0]).wr W2 (Or.inl (List.mem_of_getElem? (i := 0) rfl)))
  have z3 : n0 ≤ h2.size := (Nat.le_trans Z0 (Keep.of_wr W2).1)
  have N2 := Fr.snoc X2 N1 g_o0
  refine Dn.by (U' := T2.setTop (mkF m 9 #[.val (.ref o0), .val (.ref o1), .val .null, .val (.long q3), .second, .val (.int p4)] [])) st2 ?_
  refine Dn.by (U' := T2.setTop (mkF m 10 #[.val (.ref o0), .val (.ref o1), .val .null, .val (.long q3), .second, .val (.int p4)] [(.ref o0)])) (fun _ k => XS.aloadN X2.here hx rfl (hb hby d6_9) rfl rfl k) ?_
  refine Dn.by (U' := T2.setTop (mkF m 11 #[.val (.ref o0), .val (.ref o1), .val .null, .val (.long q3), .second, .val (.int p4)] [.null, (.ref o0)])) (fun _ k => XS.aloadN X2.here hx rfl (hb hby d6_10) rfl rfl k) ?_
  obtain ⟨T4, h4, X4, e4, W4, st4⟩ := putF X2 hx hZ hown (host := "") (Or.inl (hw _ (List.mem_of_getElem? (i := 40) rfl))) Via.refl e2 (F_u_contentType.other W2 (Or.inr (slot_ne (Or.inr (hw _ (List.mem_of_getElem? (i := 41) rfl))) (Or.inr (hw _ (List.mem_of_getElem? (i := 39) rfl))) (by decide) (t := (.object "java/lang/String")) (t' := (.object "java/lang/String")) (by decide) (by decide)))) (E_o0.wr W2) (Or.inr ⟨(hw _ (List.mem_of_getElem? (i := 41) rfl)), rfl, hnm⟩) (hw _ (List.mem_of_getElem? (i := 27) rfl)) (ty := (.object "java/lang/String")) (by decide) rfl rfl (g := (mkF m 11 #[.val (.ref o0), .val (.ref o1), .val .null, .val (.long q3), .second, .val (.int p4)] [.null, (.ref o0)])) rfl rfl (hb hby d6_11)
  have F4 := (F_u_contentType.other W2 (Or.inr (slot_ne (Or.inr (hw _ (List.mem_of_getElem? (i := 41) rfl))) (Or.inr (hw _ (List.mem_of_getElem? (i := 39) rfl))) (by decide) (t := (.object "java/lang/String")) (t' := (.object "java/lang/String")) (by decide) (by decide)))).same W4
  have K5 : Keep h0 h4 [o0] := (K3.wr W4 (Or.inl (List.mem_of_getElem? (i := 0) rfl)))
  have z5 : n0 ≤ h4.size := (Nat.le_trans z3 (Keep.of_wr W4).1)
  have N4 := Fr.snoc X4 N2 g_o0
  refine Dn.by (U' := T4.setTop (mkF m 14 #[.val (.ref o0), .val (.ref o1), .val .null, .val (.long q3), .second, .val (.int p4)] [])) st4 ?_
  refine Dn.by (U' := T4.setTop (mkF m 15 #[.val (.ref o0), .val (.ref o1), .val .null, .val (.long q3), .second, .val (.int p4)] [(.ref o0)])) (fun _ k => XS.aloadN X4.here hx rfl (hb hby d6_14) rfl rfl k) ?_
  refine Dn.by (U' := T4.setTop (mkF m 16 #[.val (.ref o0), .val (.ref o1), .val .null, .val (.long q3), .second, .val (.int p4)] [(.long q3), (.ref o0)])) (fun _ k => XS.lloadN X4.here hx rfl (hb hby d6_15) rfl k) ?_
  obtain ⟨T6, h6, X6, e6, W6, st6⟩ := putF X4 hx hZ hown (host := "") (Or.inl (hw _ (List.mem_of_getElem? (i := 42) rfl))) Via.refl e4 ((F_u_contentLength.other W2 (Or.inr (slot_ne (Or.inr (hw _ (List.mem_of_getElem? (i := 43) rfl))) (Or.inr (hw _ (List.mem_of_getElem? (i := 39) rfl))) (by decide) (t := .long) (t' := (.object "java/lang/String")) (by decide) (by decide)))).other W4 (Or.inr (slot_ne (Or.inr (hw _ (List.mem_of_getElem? (i := 43) rfl))) (Or.inr (hw _ (List.mem_of_getElem? (i := 41) rfl))) (by decide) (t := .long) (t' := (.object "java/lang/String")) (by decide) (by decide)))) ((E_o0.wr W2).wr W4) (Or.inr ⟨(hw _ (List.mem_of_getElem? (i := 43) rfl)), rfl, hnm⟩) (hw _ (List.mem_of_getElem? (i := 27) rfl)) (ty := .long) (by decide) rfl rfl (g := (mkF m 16 #[.val (.ref o0), .val (.ref o1), .val .null, .val (.long q3), .second, .val (.int p4)] [(.long q3), (.ref o0)])) rfl rfl (hb hby d6_16)
  have F6 := ((F_u_contentLength.other W2 (Or.inr (slot_ne (Or.inr (hw _ (List.mem_of_getElem? (i := 43) rfl))) (Or.inr (hw _ (List.mem_of_getElem? (i := 39) rfl))) (by decide) (t := .long) (t' := (.object "java/lang/String")) (by decide) (by decide)))).other W4 (Or.inr (slot_ne (Or.inr (hw _ (List.mem_of_getElem? (i := 43) rfl))) (Or.inr (hw _ (List.mem_of_getElem? (i := 41) rfl))) (by decide) (t := .long) (t' := (.object "java/lang/String")) (by decide) (by decide)))).same W6
  have K7 : Keep h0 h6 [o0] := (K5.wr W6 (Or.inl (List.mem_of_getElem? (i := 0) rfl)))
  have z7 : n0 ≤ h6.size := (Nat.le_trans z5 (Keep.of_wr W6).1)
  have N6 := Fr.snoc X6 N4 g_o0
  refine Dn.by (U' := T6.setTop (mkF m 19 #[.val (.ref o0), .val (.ref o1), .val .null, .val (.long q3), .second, .val (.int p4)] [])) st6 ?_
  refine Dn.by (U' := T6.setTop (mkF m 20 #[.val (.ref o0), .val (.ref o1), .val .null, .val (.long q3), .second, .val (.int p4)] [(.ref o0)])) (fun _ k => XS.aloadN X6.here hx rfl (hb hby d6_19) rfl rfl k) ?_
  refine Dn.by (U' := T6.setTop (mkF m 22 #[.val (.ref o0), .val (.ref o1), .val .null, .val (.long q3), .second, .val (.int p4)] [(.int p4), (.ref o0)])) (fun _ k => XS.iload X6.here hx rfl (hb hby d6_20) rfl k) ?_
  obtain ⟨T8, h8, X8, e8, W8, st8⟩ := putFN X6 hx hZ hown (hw _ (List.mem_of_getElem? (i := 44) rfl)) Via.refl e6 (((F_u_transferCoded.other W2 (Or.inr (slot_ne (Or.inr (hw _ (List.mem_of_getElem? (i := 45) rfl))) (Or.inr (hw _ (List.mem_of_getElem? (i := 39) rfl))) (by decide) (t := .boolean) (t' := (.object "java/lang/String")) (by decide) (by decide)))).other W4 (Or.inr (slot_ne (Or.inr (hw _ (List.mem_of_getElem? (i := 45) rfl))) (Or.inr (hw _ (List.mem_of_getElem? (i := 41) rfl))) (by decide) (t := .boolean) (t' := (.object "java/lang/String")) (by decide) (by decide)))).other W6 (Or.inr (slot_ne (Or.inr (hw _ (List.mem_of_getElem? (i := 45) rfl))) (Or.inr (hw _ (List.mem_of_getElem? (i := 43) rfl))) (by decide) (t := .boolean) (t' := .long) (by decide) (by decide)))) (((E_o0.wr W2).wr W4).wr W6) (Or.inr ⟨(hw _ (List.mem_of_getElem? (i := 45) rfl)), rfl, hnm⟩) (hw _ (List.mem_of_getElem? (i := 27) rfl)) (ty := .boolean) (v' := (.int (nar .boolean p4))) (by decide) rfl (fits_nar_bool _) (g := (mkF m 22 #[.val (.ref o0), .val (.ref o1), .val .null, .val (.long q3), .second, .val (.int p4)] [(.int p4), (.ref o0)])) rfl rfl (hb hby d6_22)
  have F8 := (((F_u_transferCoded.other W2 (Or.inr (slot_ne (Or.inr (hw _ (List.mem_of_getElem? (i := 45) rfl))) (Or.inr (hw _ (List.mem_of_getElem? (i := 39) rfl))) (by decide) (t := .boolean) (t' := (.object "java/lang/String")) (by decide) (by decide)))).other W4 (Or.inr (slot_ne (Or.inr (hw _ (List.mem_of_getElem? (i := 45) rfl))) (Or.inr (hw _ (List.mem_of_getElem? (i := 41) rfl))) (by decide) (t := .boolean) (t' := (.object "java/lang/String")) (by decide) (by decide)))).other W6 (Or.inr (slot_ne (Or.inr (hw _ (List.mem_of_getElem? (i := 45) rfl))) (Or.inr (hw _ (List.mem_of_getElem? (i := 43) rfl))) (by decide) (t := .boolean) (t' := .long) (by decide) (by decide)))).same W8
  have K9 : Keep h0 h8 [o0] := (K7.wr W8 (Or.inl (List.mem_of_getElem? (i := 0) rfl)))
  have z9 : n0 ≤ h8.size := (Nat.le_trans z7 (Keep.of_wr W8).1)
  have N8 := Fr.snoc X8 N6 g_o0
  refine Dn.by (U' := T8.setTop (mkF m 25 #[.val (.ref o0), .val (.ref o1), .val .null, .val (.long q3), .second, .val (.int p4)] [])) st8 ?_
  refine Dn.out X8 (v := none) (fun _ => rfl) (BodyLoose.notSynchronized Bd) (fun _ hr => X8.returnOut hx Bd.returns (hb hby d6_25) hr) (by decide) (by decide) ?_
  rw [e8]
  exact ⟨rfl, N8, K9, ((((E_o0.wr W2).wr W4).wr W6).wr W8), (((F2.other W4 (Or.inr (slot_ne (Or.inr (hw _ (List.mem_of_getElem? (i := 39) rfl))) (Or.inr (hw _ (List.mem_of_getElem? (i := 41) rfl))) (by decide) (t := (.object "java/lang/String")) (t' := (.object "java/lang/String")) (by decide) (by decide)))).other W6 (Or.inr (slot_ne (Or.inr (hw _ (List.mem_of_getElem? (i := 39) rfl))) (Or.inr (hw _ (List.mem_of_getElem? (i := 43) rfl))) (by decide) (t := (.object "java/lang/String")) (t' := .long) (by decide) (by decide)))).other W8 (Or.inr (slot_ne (Or.inr (hw _ (List.mem_of_getElem? (i := 39) rfl))) (Or.inr (hw _ (List.mem_of_getElem? (i := 45) rfl))) (by decide) (t := (.object "java/lang/String")) (t' := .boolean) (by decide) (by decide)))), ((F4.other W6 (Or.inr (slot_ne (Or.inr (hw _ (List.mem_of_getElem? (i := 41) rfl))) (Or.inr (hw _ (List.mem_of_getElem? (i := 43) rfl))) (by decide) (t := (.object "java/lang/String")) (t' := .long) (by decide) (by decide)))).other W8 (Or.inr (slot_ne (Or.inr (hw _ (List.mem_of_getElem? (i := 41) rfl))) (Or.inr (hw _ (List.mem_of_getElem? (i := 45) rfl))) (by decide) (t := (.object "java/lang/String")) (t' := .boolean) (by decide) (by decide)))), (F6.other W8 (Or.inr (slot_ne (Or.inr (hw _ (List.mem_of_getElem? (i := 43) rfl))) (Or.inr (hw _ (List.mem_of_getElem? (i := 45) rfl))) (by decide) (t := .long) (t' := .boolean) (by decide) (by decide)))), F8⟩
def maxJ (q0 : Int64) (q1 : Int64) : Int64 := (if q0 < q1 then q1 else q0)
abbrev Rm9 : Room := { frames := 0, cells := 0, slots := 0, locals := 0 }
theorem ef_9 (m : MethodId) (q0 : Int64) (q1 : Int64) : entryFrame m #[(.long q0), (.long q1)] 4 = mkF m 0 #[.val (.long q0), .second, .val (.long q1), .second] [] := by first | (simp [entryFrame, mkF, argsToLocals, Value.category]; done) | rfl
def Q9 (Z : State) (q0 : Int64) (q1 : Int64) (h0 : Heap) (n0 : Nat) (v : Option Value) (h : Heap) (L : List Loc) : Prop := v = some (.long (maxJ q0 q1)) ∧ Fr n0 L ∧ h = h0
set_option maxRecDepth 65536 in
set_option maxHeartbeats 40000000 in
theorem rm9 (l : Launch) (Z : State) (a0 : Array Value) (hw : ∀ d ∈ tables_1, d.before a0 Z = true) (ws : List Jvm.Cond) (q0 : Int64) (q1 : Int64) (h0 : Heap) (n0 : Nat) (Z0 : n0 ≤ h0.size)  :
    MetFree l (⟨"java/lang/Math", "max", "(JJ)J"⟩ : MethodName) (head1 (Jvm.Cond.code (⟨"java/lang/Math", "max", "(JJ)J"⟩ : MethodName) jdk_29_method_66_code 4 (some .long) :: ws) Rm9) (fun a U => a = #[(.long q0), (.long q1)] ∧ Z.Warmed39 U.vm ∧ U.heap = h0) (fun _ _ _ _ _ => True) (fun _ U o U' => ∃ v L, o = .returned v ∧ Q9 Z q0 q1 h0 n0 v U'.heap L ∧ FrameEnd U o U' L Rm9.cells Rm9.slots) := by
  refine MetFree.of_bodySF (Jvm.Free.JP.mathPlain rfl (by decide +kernel)) hisR ?_
  intro p e s m args below meth c s₁ Bd hml0 hP hK
  obtain ⟨rfl, hZ, hh⟩ := hP
  have hx := Bd.exec
  have hby := Bd.bytes
  have hml : c.maxLocals = 4 := hml0
  have hown : s.vm.findClass "java/lang/Math" = some m.cls := findClass_of_methodNamed Bd.named
  have hnm := (name_of_methodNamed Bd.named Bd.method).1
  have X0 : Stand p l e Rm9 s m #[(.long q0), (.long q1)] below meth c s₁ [] 0 0 := Stand.of_body Bd
  have e0 : s₁.heap = h0 := by rw [← hh, Bd.state]; rfl
  have N0 := Fr.nil n0
  show Dn p e below s Rm9.cells Rm9.slots (Q9 Z q0 q1 h0 n0) (s₁.setTop (entryFrame m #[(.long q0), (.long q1)] 4))
  rw [ef_9]
  refine Dn.by (U' := s₁.setTop (mkF m 1 #[.val (.long q0), .second, .val (.long q1), .second] [(.long q0)])) (fun _ k => XS.lloadN X0.here hx rfl (hb hby d9_0) rfl k) ?_
  refine Dn.by (U' := s₁.setTop (mkF m 2 #[.val (.long q0), .second, .val (.long q1), .second] [(.long q1), (.long q0)])) (fun _ k => XS.lloadN X0.here hx rfl (hb hby d9_1) rfl k) ?_
  refine Dn.by (U' := s₁.setTop (mkF m 3 #[.val (.long q0), .second, .val (.long q1), .second] [(.int (lcmpW q0 q1))])) (fun _ k => XS.lcmp X0.here hx rfl (hb hby d9_2) rfl k) ?_
  by_cases c3_1 : q0 < q1
  ·
    refine Dn.by (U' := s₁.setTop (mkF m 10 #[.val (.long q0), .second, .val (.long q1), .second] [])) (fun _ k => XS.ifYes X0.here hx rfl (pc0 := 3) (pc' := 10) rfl (hb hby d9_3) rfl ((if0 _ _).trans (tlt ((lw_lt _ _).mpr c3_1)).1) (by decide) (by decide) k) ?_
    refine Dn.by (U' := s₁.setTop (mkF m 11 #[.val (.long q0), .second, .val (.long q1), .second] [(.long q1)])) (fun _ k => XS.lloadN X0.here hx rfl (hb hby d9_10) rfl k) ?_
    refine Dn.out X0 (v := (some (.long q1))) (fun h => by rw [Bd.returns] at h; cases h) (BodyLoose.notSynchronized Bd) (fun _ hr => retOut X0 hx Bd.returns rfl (Or.inr (Or.inl ⟨rfl, rfl, _, rfl⟩)) (hb hby d9_11) hr) (by decide) (by decide) ?_
    rw [e0]
    exact ⟨by simp only [maxJ, if_pos c3_1], N0, rfl⟩
  ·
    refine Dn.by (U' := s₁.setTop (mkF m 6 #[.val (.long q0), .second, .val (.long q1), .second] [])) (fun _ k => XS.ifNo X0.here hx rfl (hb hby d9_3) rfl ((if0 _ _).trans (flt (fun z => c3_1 ((lw_lt _ _).mp z))).1) k) ?_
    refine Dn.by (U' := s₁.setTop (mkF m 7 #[.val (.long q0), .second, .val (.long q1), .second] [(.long q0)])) (fun _ k => XS.lloadN X0.here hx rfl (hb hby d9_6) rfl k) ?_
    refine Dn.by (U' := s₁.setTop (mkF m 11 #[.val (.long q0), .second, .val (.long q1), .second] [(.long q0)])) (fun _ k => XS.goto X0.here hx rfl (pc0 := 7) (pc' := 11) rfl (hb hby d9_7) (by decide) (by decide) k) ?_
    refine Dn.out X0 (v := (some (.long q0))) (fun h => by rw [Bd.returns] at h; cases h) (BodyLoose.notSynchronized Bd) (fun _ hr => retOut X0 hx Bd.returns rfl (Or.inr (Or.inl ⟨rfl, rfl, _, rfl⟩)) (hb hby d9_11) hr) (by decide) (by decide) ?_
    rw [e0]
    exact ⟨by simp only [maxJ, if_neg c3_1], N0, rfl⟩
def bodyL (o0 : Addr) (u_transferCoded_o0 : Int32) (u_contentLength_o0 : Int64) : Int64 := (if u_transferCoded_o0 = (0 : Int32) then (maxJ u_contentLength_o0 (0 : Int64)) else (-1 : Int64))
abbrev Rm8 : Room := { frames := 1, cells := 0, slots := 0, locals := 15 }
theorem ef_8 (m : MethodId) (o0 : Addr) : entryFrame m #[(.ref o0)] 1 = mkF m 0 #[.val (.ref o0)] [] := by first | (simp [entryFrame, mkF, argsToLocals, Value.category]; done) | rfl
def Q8 (Z : State) (o0 : Addr) (u_transferCoded_o0 : Int32) (u_contentLength_o0 : Int64) (h0 : Heap) (n0 : Nat) (v : Option Value) (h : Heap) (L : List Loc) : Prop := v = some (.long (bodyL o0 u_transferCoded_o0 u_contentLength_o0)) ∧ Fr n0 L ∧ h = h0
set_option maxRecDepth 65536 in
set_option maxHeartbeats 40000000 in
theorem rm8 (l : Launch) (Z : State) (a0 : Array Value) (hw : ∀ d ∈ tables_1, d.before a0 Z = true) (ws : List Jvm.Cond) (o0 : Addr) (u_transferCoded_o0 : Int32) (u_contentLength_o0 : Int64) (h0 : Heap) (n0 : Nat) (Z0 : n0 ≤ h0.size) (F_u_transferCoded_o0 : Fld Z h0 o0 "formwire/cli/RequestHead" "transferCoded" "Z" (.int u_transferCoded_o0)) (F_u_contentLength_o0 : Fld Z h0 o0 "formwire/cli/RequestHead" "contentLength" "J" (.long u_contentLength_o0)) :
    MetFree l (⟨"formwire/cli/RequestHead", "bodyLength", "()J"⟩ : MethodName) (head1 (Jvm.Cond.code (⟨"formwire/cli/RequestHead", "bodyLength", "()J"⟩ : MethodName) prog_42_method_5_code 1 (some .long) :: ws) Rm8) (fun a U => a = #[(.ref o0)] ∧ Z.Warmed39 U.vm ∧ U.heap = h0) (fun _ _ _ _ _ => True) (fun _ U o U' => ∃ v L, o = .returned v ∧ Q8 Z o0 u_transferCoded_o0 u_contentLength_o0 h0 n0 v U'.heap L ∧ FrameEnd U o U' L Rm8.cells Rm8.slots) := by
  refine MetFree.of_bodySF (plainFor_of_name pn3) hisR ?_
  intro p e s m args below meth c s₁ Bd hml0 hP hK
  obtain ⟨rfl, hZ, hh⟩ := hP
  have hx := Bd.exec
  have hby := Bd.bytes
  have hml : c.maxLocals = 1 := hml0
  have hown : s.vm.findClass "formwire/cli/RequestHead" = some m.cls := findClass_of_methodNamed Bd.named
  have hnm := (name_of_methodNamed Bd.named Bd.method).1
  have X0 : Stand p l e Rm8 s m #[(.ref o0)] below meth c s₁ [] 0 0 := Stand.of_body Bd
  have e0 : s₁.heap = h0 := by rw [← hh, Bd.state]; rfl
  have N0 := Fr.nil n0
  show Dn p e below s Rm8.cells Rm8.slots (Q8 Z o0 u_transferCoded_o0 u_contentLength_o0 h0 n0) (s₁.setTop (entryFrame m #[(.ref o0)] 1))
  rw [ef_8]
  refine Dn.by (U' := s₁.setTop (mkF m 1 #[.val (.ref o0)] [(.ref o0)])) (fun _ k => XS.aloadN X0.here hx rfl (hb hby d8_0) rfl rfl k) ?_
  obtain ⟨T1, X1, e1, st1⟩ := getF X0 hx hZ hown (host := "") (Or.inl (hw _ (List.mem_of_getElem? (i := 44) rfl))) Via.refl e0 F_u_transferCoded_o0 (g := (mkF m 1 #[.val (.ref o0)] [(.ref o0)])) rfl rfl (hb hby d8_1)
  refine Dn.by (U' := T1.setTop (mkF m 4 #[.val (.ref o0)] [(.int u_transferCoded_o0)])) st1 ?_
  by_cases c4_2 : u_transferCoded_o0 = (0 : Int32)
  ·
    refine Dn.by (U' := T1.setTop (mkF m 13 #[.val (.ref o0)] [])) (fun _ k => XS.ifYes X1.here hx rfl (pc0 := 4) (pc' := 13) rfl (hb hby d8_4) rfl ((if0 _ _).trans (teq c4_2).1) (by decide) (by decide) k) ?_
    refine Dn.by (U' := T1.setTop (mkF m 14 #[.val (.ref o0)] [(.ref o0)])) (fun _ k => XS.aloadN X1.here hx rfl (hb hby d8_13) rfl rfl k) ?_
    obtain ⟨T3, X3, e3, st3⟩ := getF X1 hx hZ hown (host := "") (Or.inl (hw _ (List.mem_of_getElem? (i := 42) rfl))) Via.refl e1 F_u_contentLength_o0 (g := (mkF m 14 #[.val (.ref o0)] [(.ref o0)])) rfl rfl (hb hby d8_14)
    refine Dn.by (U' := T3.setTop (mkF m 17 #[.val (.ref o0)] [(.long u_contentLength_o0)])) st3 ?_
    refine Dn.by (U' := T3.setTop (mkF m 18 #[.val (.ref o0)] [(.long (0 : Int64)), (.long u_contentLength_o0)])) (fun _ k => XS.lconst X3.here hx rfl (hb hby d8_17)  k) ?_
    obtain ⟨_, _, ⟨T4, L4, k4, n4⟩, -, X4, ⟨Lc4, hQ4, l4, y4, z4⟩, st4⟩ := Jvm.LawKit.callS X3 hx (y := (⟨"java/lang/Math", "max", "(JJ)J"⟩ : MethodName)) hown (mvT hZ (hw _ (List.mem_of_getElem? (i := 51) rfl))) (mvT hZ (hw _ (List.mem_of_getElem? (i := 52) rfl))) (mvT hZ (hw _ (List.mem_of_getElem? (i := 53) rfl))) (mvT hZ (hw _ (List.mem_of_getElem? (i := 54) rfl))) (by decide) (backOf (W := 0) (rm9 l Z a0 hw [] u_contentLength_o0 (0 : Int64)  h0 n0 Z0 ) hZ (hw _ (List.mem_of_getElem? (i := 54) rfl)) (hw _ (List.mem_of_getElem? (i := 53) rfl)) (by decide) (by decide)) (g := (mkF m 18 #[.val (.ref o0)] [(.long (0 : Int64)), (.long u_contentLength_o0)])) rfl (by rw [hml]; rfl) (argsL := [(.long u_contentLength_o0), (.long (0 : Int64))]) (rest := []) (lenOf pd4 rfl) rfl (by show 2 * 0 + _ ≤ _; exact Nat.le_of_eq rfl) (hb hby d8_18) (fun _ _ => ⟨rfl, e3, (by decide : 0 + 0 ≤ _), (by decide : 0 + 0 ≤ _)⟩)
    dsimp only [Pt.U, Pt.locs, Pt.cells, Pt.slots] at X4 l4 y4 z4 st4 hQ4
    subst l4 y4 z4
    obtain ⟨rfl, N4q, e4⟩ := hQ4
    have N4 := Fr.app N0 N4q
    refine Dn.by (U' := T4.setTop (mkF m 21 #[.val (.ref o0)] [(.long (maxJ u_contentLength_o0 (0 : Int64)))])) st4 ?_
    refine Dn.out X4 (v := (some (.long (maxJ u_contentLength_o0 (0 : Int64))))) (fun h => by rw [Bd.returns] at h; cases h) (BodyLoose.notSynchronized Bd) (fun _ hr => retOut X4 hx Bd.returns rfl (Or.inr (Or.inl ⟨rfl, rfl, _, rfl⟩)) (hb hby d8_21) hr) (by decide) (by decide) ?_
    rw [e4]
    exact ⟨by simp only [bodyL, if_pos c4_2], N4, rfl⟩
  ·
    refine Dn.by (U' := T1.setTop (mkF m 7 #[.val (.ref o0)] [])) (fun _ k => XS.ifNo X1.here hx rfl (hb hby d8_4) rfl ((if0 _ _).trans (feq c4_2).1) k) ?_
    refine Dn.by (U' := T1.setTop (mkF m 10 #[.val (.ref o0)] [(.long (-1 : Int64))])) (X1.ldc2Long hx hown (mvT hZ (hw _ (List.mem_of_getElem? (i := 56) rfl))) (g := (mkF m 7 #[.val (.ref o0)] [])) rfl (hb hby d8_7)) ?_
    refine Dn.by (U' := T1.setTop (mkF m 21 #[.val (.ref o0)] [(.long (-1 : Int64))])) (fun _ k => XS.goto X1.here hx rfl (pc0 := 10) (pc' := 21) rfl (hb hby d8_10) (by decide) (by decide) k) ?_
    refine Dn.out X1 (v := (some (.long (-1 : Int64)))) (fun h => by rw [Bd.returns] at h; cases h) (BodyLoose.notSynchronized Bd) (fun _ hr => retOut X1 hx Bd.returns rfl (Or.inr (Or.inl ⟨rfl, rfl, _, rfl⟩)) (hb hby d8_21) hr) (by decide) (by decide) ?_
    rw [e1]
    exact ⟨by simp only [bodyL, if_neg c4_2], N0, rfl⟩
theorem own_b (b : Int32) (h : b = 0 ∨ b = 1) : nar .boolean b = b := by rcases h with rfl | rfl <;> decide
theorem own_1 (o : Addr) (b : Int32) (c : Int64) (h : ¬ b = 0) : bodyL o b c = -1 := by unfold bodyL; rw [if_neg h]
theorem own_2 (o : Addr) (b : Int32) (c : Int64) (h : b = 0) (hc : c = -1) : bodyL o b c = 0 := by subst hc; unfold bodyL; rw [if_pos h]; decide
theorem own_3 (o : Addr) (b : Int32) (c : Int64) (h : b = 0) (hc : ¬ c < 0) : bodyL o b c = c := by unfold bodyL; rw [if_pos h]; unfold maxJ; rw [if_neg hc]
theorem ef_0 (m : MethodId) (q0 : Int64) (p1 : Int32) (p2 : Int32) : entryFrame m #[(.long q0), (.int p1), (.int p2)] maxLocals = mkF m 0 #[.val (.long q0), .second, .val (.int p1), .val (.int p2), .unset, .unset, .unset, .unset, .unset, .unset, .unset, .unset, .unset, .unset] [] := by first | (simp [entryFrame, mkF, argsToLocals, Value.category, maxLocals]; done) | rfl
def Q0 (Z : State) (q0 : Int64) (p1 : Int32) (p2 : Int32) (cs : Int32) (h0 : Heap) (n0 : Nat) (v : Option Value) (h : Heap) (L : List Loc) : Prop := v = some (.int 1) ∧ Fr n0 L
set_option maxRecDepth 65536 in
set_option maxHeartbeats 40000000 in
theorem rm0 (l : Launch) (Z : State) (a0 : Array Value) (hw : ∀ d ∈ tables_1, d.before a0 Z = true) (ws : List Jvm.Cond) (q0 : Int64) (p1 : Int32) (p2 : Int32) (cs : Int32) (h0 : Heap) (n0 : Nat) (Z0 : n0 ≤ h0.size) (O0 : Old Z n0 h0) (S_cs : Sta Z Z.heap "java/lang/String" "COMPACT_STRINGS" "Z" (.int cs)) (hcs : ¬ cs = (0 : Int32)) :
    MetFree l x (head1 (Jvm.Cond.code x code maxLocals ret :: ws) room_1) (fun a U => a = #[(.long q0), (.int p1), (.int p2)] ∧ Z.Warmed39 U.vm ∧ U.heap = h0) (fun _ _ _ _ _ => True) (fun _ U o U' => ∃ v L, o = .returned v ∧ Q0 Z q0 p1 p2 cs h0 n0 v U'.heap L ∧ FrameEnd U o U' L 24 128) := by
  refine MetFree.of_bodySF (plainFor_of_name pn4) hisR ?_
  intro p e s m args below meth c s₁ Bd hml0 hP hK
  obtain ⟨rfl, hZ, hh⟩ := hP
  have hx := Bd.exec
  have hby := Bd.bytes
  have hml : c.maxLocals = 14 := hml0
  have hown : s.vm.findClass "formwire/cli/RequestHeadBodyLengthPinLaw" = some m.cls := findClass_of_methodNamed Bd.named
  have hnm := (name_of_methodNamed Bd.named Bd.method).1
  have X0 : Stand p l e room_1 s m #[(.long q0), (.int p1), (.int p2)] below meth c s₁ [] 0 0 := Stand.of_body Bd
  have e0 : s₁.heap = h0 := by rw [← hh, Bd.state]; rfl
  have N0 := Fr.nil n0
  show Dn p e below s 24 128 (Q0 Z q0 p1 p2 cs h0 n0) (s₁.setTop (entryFrame m #[(.long q0), (.int p1), (.int p2)] maxLocals))
  rw [ef_0]
  refine Dn.by (U' := s₁.setTop (mkF m 1 #[.val (.long q0), .second, .val (.int p1), .val (.int p2), .unset, .unset, .unset, .unset, .unset, .unset, .unset, .unset, .unset, .unset] [(.int p1)])) (fun _ k => XS.iloadN X0.here hx rfl (hb hby at_0) rfl k) ?_
  refine Dn.by (U' := s₁.setTop (mkF m 2 #[.val (.long q0), .second, .val (.int p1), .val (.int p2), .unset, .unset, .unset, .unset, .unset, .unset, .unset, .unset, .unset, .unset] [(.int (1 : Int32)), (.int p1)])) (fun _ k => XS.iconst X0.here hx rfl (hb hby at_1)  k) ?_
  refine Dn.by (U' := s₁.setTop (mkF m 3 #[.val (.long q0), .second, .val (.int p1), .val (.int p2), .unset, .unset, .unset, .unset, .unset, .unset, .unset, .unset, .unset, .unset] [(.int (p1 &&& (1 : Int32)))])) (fun _ k => XS.iand X0.here hx rfl (hb hby at_2) rfl k) ?_
  have J : ∀ (b : Int32) (hb0 : b = 0 ∨ b = 1), Dn p e below s 24 128 (Q0 Z q0 p1 p2 cs h0 n0) (s₁.setTop (mkF m 11 #[.val (.long q0), .second, .val (.int p1), .val (.int p2), .unset, .unset, .unset, .unset, .unset, .unset, .unset, .unset, .unset, .unset] [(.int b)])) := by
    intro b hb0
    refine Dn.by (U' := s₁.setTop (mkF m 13 #[.val (.long q0), .second, .val (.int p1), .val (.int p2), .val (.int b), .unset, .unset, .unset, .unset, .unset, .unset, .unset, .unset, .unset] [])) (fun _ k => XS.istore X0.here hx rfl (hb hby at_11) rfl (l' := #[.val (.long q0), .second, .val (.int p1), .val (.int p2), .val (.int b), .unset, .unset, .unset, .unset, .unset, .unset, .unset, .unset, .unset]) rfl k) ?_
    refine Dn.by (U' := s₁.setTop (mkF m 14 #[.val (.long q0), .second, .val (.int p1), .val (.int p2), .val (.int b), .unset, .unset, .unset, .unset, .unset, .unset, .unset, .unset, .unset] [(.long q0)])) (fun _ k => XS.lloadN X0.here hx rfl (hb hby at_13) rfl k) ?_
    refine Dn.by (U' := s₁.setTop (mkF m 15 #[.val (.long q0), .second, .val (.int p1), .val (.int p2), .val (.int b), .unset, .unset, .unset, .unset, .unset, .unset, .unset, .unset, .unset] [(.long (0 : Int64)), (.long q0)])) (fun _ k => XS.lconst X0.here hx rfl (hb hby at_14)  k) ?_
    refine Dn.by (U' := s₁.setTop (mkF m 16 #[.val (.long q0), .second, .val (.int p1), .val (.int p2), .val (.int b), .unset, .unset, .unset, .unset, .unset, .unset, .unset, .unset, .unset] [(.int (lcmpW q0 (0 : Int64)))])) (fun _ k => XS.lcmp X0.here hx rfl (hb hby at_15) rfl k) ?_
    have J2 : ∀ (cl : Int64) (hc0 : cl = -1 ∨ ¬ cl < 0), Dn p e below s 24 128 (Q0 Z q0 p1 p2 cs h0 n0) (s₁.setTop (mkF m 26 #[.val (.long q0), .second, .val (.int p1), .val (.int p2), .val (.int b), .unset, .unset, .unset, .unset, .unset, .unset, .unset, .unset, .unset] [(.long cl)])) := by
      intro cl hc0
      refine Dn.by (U' := s₁.setTop (mkF m 28 #[.val (.long q0), .second, .val (.int p1), .val (.int p2), .val (.int b), .val (.long cl), .second, .unset, .unset, .unset, .unset, .unset, .unset, .unset] [])) (fun _ k => XS.lstore X0.here hx rfl (hb hby at_26) rfl (l' := #[.val (.long q0), .second, .val (.int p1), .val (.int p2), .val (.int b), .val (.long cl), .second, .unset, .unset, .unset, .unset, .unset, .unset, .unset]) rfl k) ?_
      refine Dn.by (U' := s₁.setTop (mkF m 29 #[.val (.long q0), .second, .val (.int p1), .val (.int p2), .val (.int b), .val (.long cl), .second, .unset, .unset, .unset, .unset, .unset, .unset, .unset] [(.int p2)])) (fun _ k => XS.iloadN X0.here hx rfl (hb hby at_28) rfl k) ?_
      refine Dn.by (U' := s₁.setTop (mkF m 32 #[.val (.long q0), .second, .val (.int p1), .val (.int p2), .val (.int b), .val (.long cl), .second, .unset, .unset, .unset, .unset, .unset, .unset, .unset] [(.int (255 : Int32)), (.int p2)])) (fun _ k => XS.sipush X0.here hx rfl (hb hby at_29)  k) ?_
      refine Dn.by (U' := s₁.setTop (mkF m 33 #[.val (.long q0), .second, .val (.int p1), .val (.int p2), .val (.int b), .val (.long cl), .second, .unset, .unset, .unset, .unset, .unset, .unset, .unset] [(.int (p2 &&& (255 : Int32)))])) (fun _ k => XS.iand X0.here hx rfl (hb hby at_32) rfl k) ?_
      refine Dn.by (U' := s₁.setTop (mkF m 34 #[.val (.long q0), .second, .val (.int p1), .val (.int p2), .val (.int b), .val (.long cl), .second, .unset, .unset, .unset, .unset, .unset, .unset, .unset] [(.int ((p2 &&& (255 : Int32)).toUInt32.toUInt16.toUInt32.toInt32))])) (fun _ k => XS.i2c X0.here hx rfl (hb hby at_33) rfl k) ?_
      obtain ⟨_, _, ⟨T1, L1, k1, n1⟩, -, X1, ⟨Lc1, hQ1, l1, y1, z1⟩, st1⟩ := Jvm.LawKit.callS X0 hx (y := (⟨"java/lang/String", "valueOf", "(C)Ljava/lang/String;"⟩ : MethodName)) hown (mvT hZ (hw _ (List.mem_of_getElem? (i := 0) rfl))) (mvT hZ (hw _ (List.mem_of_getElem? (i := 1) rfl))) (mvT hZ (hw _ (List.mem_of_getElem? (i := 2) rfl))) (mvT hZ (hw _ (List.mem_of_getElem? (i := 3) rfl))) (by decide) (backOf (W := 0) (rm1 l Z a0 hw [] ((p2 &&& (255 : Int32)).toUInt32.toUInt16.toUInt32.toInt32) cs h0 n0 Z0 (S_cs.ext O0.2) hcs (own_c _)) hZ (hw _ (List.mem_of_getElem? (i := 3) rfl)) (hw _ (List.mem_of_getElem? (i := 2) rfl)) (by decide) (by decide)) (g := (mkF m 34 #[.val (.long q0), .second, .val (.int p1), .val (.int p2), .val (.int b), .val (.long cl), .second, .unset, .unset, .unset, .unset, .unset, .unset, .unset] [(.int ((p2 &&& (255 : Int32)).toUInt32.toUInt16.toUInt32.toInt32))])) rfl (by rw [hml]; rfl) (argsL := [(.int ((p2 &&& (255 : Int32)).toUInt32.toUInt16.toUInt32.toInt32))]) (rest := []) (lenOf pd5 rfl) rfl (by show 2 * 0 + _ ≤ _; exact Nat.le_of_eq rfl) (hb hby at_34) (fun _ _ => ⟨rfl, e0, (by decide : 0 + 2 ≤ _), (by decide : 0 + 5 ≤ _)⟩)
      dsimp only [Pt.U, Pt.locs, Pt.cells, Pt.slots] at X1 l1 y1 z1 st1 hQ1
      subst l1 y1 z1
      obtain ⟨b1, rfl, N1q, zz1, KK1, EE1⟩ := hQ1
      have N1 := Fr.app N0 N1q
      have g_b1 : n0 ≤ b1 := Nat.le_trans Z0 zz1
      have sz_b1 : h0.size ≤ b1 := Nat.le_trans (Keep.refl h0 []).1 zz1
      have K2 : Keep h0 T1.heap [] := ((Keep.refl h0 []).trans KK1 all0)
      have z2 : n0 ≤ T1.heap.size := (Nat.le_trans Z0 KK1.1)
      have O2 : Old Z n0 T1.heap := O0.keep KK1 all0
      refine Dn.by (U' := T1.setTop (mkF m 37 #[.val (.long q0), .second, .val (.int p1), .val (.int p2), .val (.int b), .val (.long cl), .second, .unset, .unset, .unset, .unset, .unset, .unset, .unset] [(.ref b1)])) st1 ?_
      refine Dn.by (U' := T1.setTop (mkF m 39 #[.val (.long q0), .second, .val (.int p1), .val (.int p2), .val (.int b), .val (.long cl), .second, .val (.ref b1), .unset, .unset, .unset, .unset, .unset, .unset] [])) (fun _ k => XS.astore X1.here hx rfl (hb hby at_37) rfl rfl (l' := #[.val (.long q0), .second, .val (.int p1), .val (.int p2), .val (.int b), .val (.long cl), .second, .val (.ref b1), .unset, .unset, .unset, .unset, .unset, .unset]) rfl k) ?_
      refine Dn.by (U' := T1.setTop (mkF m 40 #[.val (.long q0), .second, .val (.int p1), .val (.int p2), .val (.int b), .val (.long cl), .second, .val (.ref b1), .unset, .unset, .unset, .unset, .unset, .unset] [(.int p1)])) (fun _ k => XS.iloadN X1.here hx rfl (hb hby at_39) rfl k) ?_
      refine Dn.by (U' := T1.setTop (mkF m 41 #[.val (.long q0), .second, .val (.int p1), .val (.int p2), .val (.int b), .val (.long cl), .second, .val (.ref b1), .unset, .unset, .unset, .unset, .unset, .unset] [(.int (2 : Int32)), (.int p1)])) (fun _ k => XS.iconst X1.here hx rfl (hb hby at_40)  k) ?_
      refine Dn.by (U' := T1.setTop (mkF m 42 #[.val (.long q0), .second, .val (.int p1), .val (.int p2), .val (.int b), .val (.long cl), .second, .val (.ref b1), .unset, .unset, .unset, .unset, .unset, .unset] [(.int (p1 &&& (2 : Int32)))])) (fun _ k => XS.iand X1.here hx rfl (hb hby at_41) rfl k) ?_
      by_cases c42_3 : (p1 &&& (2 : Int32)) = (0 : Int32)
      ·
        refine Dn.by (U' := T1.setTop (mkF m 49 #[.val (.long q0), .second, .val (.int p1), .val (.int p2), .val (.int b), .val (.long cl), .second, .val (.ref b1), .unset, .unset, .unset, .unset, .unset, .unset] [])) (fun _ k => XS.ifYes X1.here hx rfl (pc0 := 42) (pc' := 49) rfl (hb hby at_42) rfl ((if0 _ _).trans (teq c42_3).1) (by decide) (by decide) k) ?_
        refine Dn.by (U' := T1.setTop (mkF m 50 #[.val (.long q0), .second, .val (.int p1), .val (.int p2), .val (.int b), .val (.long cl), .second, .val (.ref b1), .unset, .unset, .unset, .unset, .unset, .unset] [(.int p2)])) (fun _ k => XS.iloadN X1.here hx rfl (hb hby at_49) rfl k) ?_
        refine Dn.by (U' := T1.setTop (mkF m 52 #[.val (.long q0), .second, .val (.int p1), .val (.int p2), .val (.int b), .val (.long cl), .second, .val (.ref b1), .unset, .unset, .unset, .unset, .unset, .unset] [(.int (8 : Int32)), (.int p2)])) (fun _ k => XS.bipush X1.here hx rfl (hb hby at_50)  k) ?_
        refine Dn.by (U' := T1.setTop (mkF m 53 #[.val (.long q0), .second, .val (.int p1), .val (.int p2), .val (.int b), .val (.long cl), .second, .val (.ref b1), .unset, .unset, .unset, .unset, .unset, .unset] [(.int ((p2.toUInt32 >>> ((8 : Int32) &&& 31).toUInt32).toInt32))])) (fun _ k => XS.iushr X1.here hx rfl (hb hby at_52) rfl k) ?_
        refine Dn.by (U' := T1.setTop (mkF m 56 #[.val (.long q0), .second, .val (.int p1), .val (.int p2), .val (.int b), .val (.long cl), .second, .val (.ref b1), .unset, .unset, .unset, .unset, .unset, .unset] [(.int (255 : Int32)), (.int ((p2.toUInt32 >>> ((8 : Int32) &&& 31).toUInt32).toInt32))])) (fun _ k => XS.sipush X1.here hx rfl (hb hby at_53)  k) ?_
        refine Dn.by (U' := T1.setTop (mkF m 57 #[.val (.long q0), .second, .val (.int p1), .val (.int p2), .val (.int b), .val (.long cl), .second, .val (.ref b1), .unset, .unset, .unset, .unset, .unset, .unset] [(.int (((p2.toUInt32 >>> ((8 : Int32) &&& 31).toUInt32).toInt32) &&& (255 : Int32)))])) (fun _ k => XS.iand X1.here hx rfl (hb hby at_56) rfl k) ?_
        refine Dn.by (U' := T1.setTop (mkF m 58 #[.val (.long q0), .second, .val (.int p1), .val (.int p2), .val (.int b), .val (.long cl), .second, .val (.ref b1), .unset, .unset, .unset, .unset, .unset, .unset] [(.int ((((p2.toUInt32 >>> ((8 : Int32) &&& 31).toUInt32).toInt32) &&& (255 : Int32)).toUInt32.toUInt16.toUInt32.toInt32))])) (fun _ k => XS.i2c X1.here hx rfl (hb hby at_57) rfl k) ?_
        obtain ⟨_, _, ⟨T4, L4, k4, n4⟩, -, X4, ⟨Lc4, hQ4, l4, y4, z4⟩, st4⟩ := Jvm.LawKit.callS X1 hx (y := (⟨"java/lang/String", "valueOf", "(C)Ljava/lang/String;"⟩ : MethodName)) hown (mvT hZ (hw _ (List.mem_of_getElem? (i := 0) rfl))) (mvT hZ (hw _ (List.mem_of_getElem? (i := 1) rfl))) (mvT hZ (hw _ (List.mem_of_getElem? (i := 2) rfl))) (mvT hZ (hw _ (List.mem_of_getElem? (i := 3) rfl))) (by decide) (backOf (W := 0) (rm1 l Z a0 hw [] ((((p2.toUInt32 >>> ((8 : Int32) &&& 31).toUInt32).toInt32) &&& (255 : Int32)).toUInt32.toUInt16.toUInt32.toInt32) cs T1.heap n0 z2 (S_cs.ext O2.2) hcs (own_c _)) hZ (hw _ (List.mem_of_getElem? (i := 3) rfl)) (hw _ (List.mem_of_getElem? (i := 2) rfl)) (by decide) (by decide)) (g := (mkF m 58 #[.val (.long q0), .second, .val (.int p1), .val (.int p2), .val (.int b), .val (.long cl), .second, .val (.ref b1), .unset, .unset, .unset, .unset, .unset, .unset] [(.int ((((p2.toUInt32 >>> ((8 : Int32) &&& 31).toUInt32).toInt32) &&& (255 : Int32)).toUInt32.toUInt16.toUInt32.toInt32))])) rfl (by rw [hml]; rfl) (argsL := [(.int ((((p2.toUInt32 >>> ((8 : Int32) &&& 31).toUInt32).toInt32) &&& (255 : Int32)).toUInt32.toUInt16.toUInt32.toInt32))]) (rest := []) (lenOf pd5 rfl) rfl (by show 2 * 0 + _ ≤ _; exact Nat.le_of_eq rfl) (hb hby at_58) (fun _ _ => ⟨rfl, rfl, (by decide : 2 + 2 ≤ _), (by decide : 5 + 5 ≤ _)⟩)
        dsimp only [Pt.U, Pt.locs, Pt.cells, Pt.slots] at X4 l4 y4 z4 st4 hQ4
        subst l4 y4 z4
        obtain ⟨b4, rfl, N4q, zz4, KK4, EE4⟩ := hQ4
        have N4 := Fr.app N1 N4q
        have g_b4 : n0 ≤ b4 := Nat.le_trans z2 zz4
        have sz_b4 : h0.size ≤ b4 := Nat.le_trans K2.1 zz4
        have ne_b1_b4 : b1 ≠ b4 := Nat.ne_of_lt (Nat.lt_of_lt_of_le EE1.lt zz4)
        have K5 : Keep h0 T4.heap [] := (K2.trans KK4 all0)
        have z5 : n0 ≤ T4.heap.size := (Nat.le_trans z2 KK4.1)
        have O5 : Old Z n0 T4.heap := O2.keep KK4 all0
        refine Dn.by (U' := T4.setTop (mkF m 61 #[.val (.long q0), .second, .val (.int p1), .val (.int p2), .val (.int b), .val (.long cl), .second, .val (.ref b1), .unset, .unset, .unset, .unset, .unset, .unset] [(.ref b4)])) st4 ?_
        refine Dn.by (U' := T4.setTop (mkF m 63 #[.val (.long q0), .second, .val (.int p1), .val (.int p2), .val (.int b), .val (.long cl), .second, .val (.ref b1), .val (.ref b4), .unset, .unset, .unset, .unset, .unset] [])) (fun _ k => XS.astore X4.here hx rfl (hb hby at_61) rfl rfl (l' := #[.val (.long q0), .second, .val (.int p1), .val (.int p2), .val (.int b), .val (.long cl), .second, .val (.ref b1), .val (.ref b4), .unset, .unset, .unset, .unset, .unset]) rfl k) ?_
        obtain ⟨T6, h6, X6, e6, E6, A6, D6, -, st6⟩ := newO X4 hx hZ hown (hw _ (List.mem_of_getElem? (i := 26) rfl)) (hw _ (List.mem_of_getElem? (i := 27) rfl)) (hw _ (List.mem_of_getElem? (i := 28) rfl)) rfl (g := (mkF m 63 #[.val (.long q0), .second, .val (.int p1), .val (.int p2), .val (.int b), .val (.long cl), .second, .val (.ref b1), .val (.ref b4), .unset, .unset, .unset, .unset, .unset] [])) rfl (hb hby at_63) (by decide) (by decide)
        obtain ⟨b6, g6⟩ : ∃ z, z = T4.heap.size := ⟨_, rfl⟩
        rw [← g6] at A6 D6 st6
        have g_b6 : n0 ≤ b6 := Nat.le_trans z5 (Nat.le_of_eq g6.symm)
        have sz_b6 : h0.size ≤ b6 := Nat.le_trans K5.1 (Nat.le_of_eq g6.symm)
        have ne_b1_b6 : b1 ≠ b6 := Nat.ne_of_lt (Nat.lt_of_lt_of_le (EE1.keep KK4).lt (Nat.le_of_eq g6.symm))
        have ne_b4_b6 : b4 ≠ b6 := Nat.ne_of_lt (Nat.lt_of_lt_of_le EE4.lt (Nat.le_of_eq g6.symm))
        have K7 : Keep h0 h6 [] := (K5.ext E6)
        have z7 : n0 ≤ h6.size := (Nat.le_trans z5 E6.1)
        have O7 : Old Z n0 h6 := O5.ext E6
        have F_target_b6 : Fld Z h6 b6 "formwire/cli/RequestHead" "target" "Ljava/lang/String;" .null := D6 (Or.inr (hw _ (List.mem_of_getElem? (i := 39) rfl))) (ty := (.object "java/lang/String")) (by decide)
        have F_contentType_b6 : Fld Z h6 b6 "formwire/cli/RequestHead" "contentType" "Ljava/lang/String;" .null := D6 (Or.inr (hw _ (List.mem_of_getElem? (i := 41) rfl))) (ty := (.object "java/lang/String")) (by decide)
        have F_contentLength_b6 : Fld Z h6 b6 "formwire/cli/RequestHead" "contentLength" "J" (.long (0 : Int64)) := D6 (Or.inr (hw _ (List.mem_of_getElem? (i := 43) rfl))) (ty := .long) (by decide)
        have F_transferCoded_b6 : Fld Z h6 b6 "formwire/cli/RequestHead" "transferCoded" "Z" (.int (0 : Int32)) := D6 (Or.inr (hw _ (List.mem_of_getElem? (i := 45) rfl))) (ty := .boolean) (by decide)
        refine Dn.by (U' := T6.setTop (mkF m 66 #[.val (.long q0), .second, .val (.int p1), .val (.int p2), .val (.int b), .val (.long cl), .second, .val (.ref b1), .val (.ref b4), .unset, .unset, .unset, .unset, .unset] [(.ref b6)])) st6 ?_
        refine Dn.by (U' := T6.setTop (mkF m 67 #[.val (.long q0), .second, .val (.int p1), .val (.int p2), .val (.int b), .val (.long cl), .second, .val (.ref b1), .val (.ref b4), .unset, .unset, .unset, .unset, .unset] [(.ref b6), (.ref b6)])) (fun _ k => XS.dup X6.here hx rfl (hb hby at_66) rfl rfl k) ?_
        refine Dn.by (U' := T6.setTop (mkF m 69 #[.val (.long q0), .second, .val (.int p1), .val (.int p2), .val (.int b), .val (.long cl), .second, .val (.ref b1), .val (.ref b4), .unset, .unset, .unset, .unset, .unset] [(.ref b1), (.ref b6), (.ref b6)])) (fun _ k => XS.aload X6.here hx rfl (hb hby at_67) rfl rfl k) ?_
        refine Dn.by (U' := T6.setTop (mkF m 71 #[.val (.long q0), .second, .val (.int p1), .val (.int p2), .val (.int b), .val (.long cl), .second, .val (.ref b1), .val (.ref b4), .unset, .unset, .unset, .unset, .unset] [(.ref b4), (.ref b1), (.ref b6), (.ref b6)])) (fun _ k => XS.aload X6.here hx rfl (hb hby at_69) rfl rfl k) ?_
        refine Dn.by (U' := T6.setTop (mkF m 73 #[.val (.long q0), .second, .val (.int p1), .val (.int p2), .val (.int b), .val (.long cl), .second, .val (.ref b1), .val (.ref b4), .unset, .unset, .unset, .unset, .unset] [(.long cl), (.ref b4), (.ref b1), (.ref b6), (.ref b6)])) (fun _ k => XS.lload X6.here hx rfl (hb hby at_71) rfl k) ?_
        refine Dn.by (U' := T6.setTop (mkF m 75 #[.val (.long q0), .second, .val (.int p1), .val (.int p2), .val (.int b), .val (.long cl), .second, .val (.ref b1), .val (.ref b4), .unset, .unset, .unset, .unset, .unset] [(.int b), (.long cl), (.ref b4), (.ref b1), (.ref b6), (.ref b6)])) (fun _ k => XS.iload X6.here hx rfl (hb hby at_73) rfl k) ?_
        obtain ⟨_, _, ⟨T8, L8, k8, n8⟩, -, X8, ⟨Lc8, hQ8, l8, y8, z8⟩, st8⟩ := X6.specialBack hx (y := (⟨"formwire/cli/RequestHead", "<init>", "(Ljava/lang/String;Ljava/lang/String;JZ)V"⟩ : MethodName)) rfl hown (mvT hZ (hw _ (List.mem_of_getElem? (i := 29) rfl))) (mvT hZ (hw _ (List.mem_of_getElem? (i := 30) rfl))) (mvT hZ (hw _ (List.mem_of_getElem? (i := 31) rfl))) (by decide) (backOf (W := 1) (rm6 l Z a0 hw [] b6 b1 b4 cl b (.null : Value) (.null : Value) ((.long (0 : Int64)) : Value) ((.int (0 : Int32)) : Value) h6 n0 z7 g_b6 A6 F_target_b6 F_contentType_b6 F_contentLength_b6 F_transferCoded_b6) hZ (hw _ (List.mem_of_getElem? (i := 31) rfl)) (hw _ (List.mem_of_getElem? (i := 28) rfl)) (by decide) (by decide)) (g := (mkF m 75 #[.val (.long q0), .second, .val (.int p1), .val (.int p2), .val (.int b), .val (.long cl), .second, .val (.ref b1), .val (.ref b4), .unset, .unset, .unset, .unset, .unset] [(.int b), (.long cl), (.ref b4), (.ref b1), (.ref b6), (.ref b6)])) rfl (by rw [hml]; rfl) (Steps.refl _) (a := b6) (argsL := [(.ref b1), (.ref b4), (.long cl), (.int b)]) (rest := [(.ref b6)]) (lenOf pd6 rfl) rfl (by show 2 * 0 + _ ≤ _; exact Nat.le_of_eq rfl) (hb hby at_75) (fun _ _ => ⟨rfl, e6, (by decide : 5 + 0 ≤ _), (by decide : 14 + 0 ≤ _)⟩)
        dsimp only [Pt.U, Pt.locs, Pt.cells, Pt.slots] at X8 l8 y8 z8 st8 hQ8
        subst l8 y8 z8
        obtain ⟨rfl, N8q, KK8, EE8, FF8_0, FF8_1, FF8_2, FF8_3⟩ := hQ8
        have N8 := Fr.app N4 N8q
        have K9 : Keep h0 T8.heap [] := (K7.trans KK8 (allS (Or.inr sz_b6) all0))
        have z9 : n0 ≤ T8.heap.size := (Nat.le_trans z7 KK8.1)
        have O9 : Old Z n0 T8.heap := O7.keep KK8 (allS g_b6 all0)
        refine Dn.by (U' := T8.setTop (mkF m 78 #[.val (.long q0), .second, .val (.int p1), .val (.int p2), .val (.int b), .val (.long cl), .second, .val (.ref b1), .val (.ref b4), .unset, .unset, .unset, .unset, .unset] [(.ref b6)])) (fun _ k => st8.trans k) ?_
        refine Dn.by (U' := T8.setTop (mkF m 80 #[.val (.long q0), .second, .val (.int p1), .val (.int p2), .val (.int b), .val (.long cl), .second, .val (.ref b1), .val (.ref b4), .val (.ref b6), .unset, .unset, .unset, .unset] [])) (fun _ k => XS.astore X8.here hx rfl (hb hby at_78) rfl rfl (l' := #[.val (.long q0), .second, .val (.int p1), .val (.int p2), .val (.int b), .val (.long cl), .second, .val (.ref b1), .val (.ref b4), .val (.ref b6), .unset, .unset, .unset, .unset]) rfl k) ?_
        refine Dn.by (U' := T8.setTop (mkF m 82 #[.val (.long q0), .second, .val (.int p1), .val (.int p2), .val (.int b), .val (.long cl), .second, .val (.ref b1), .val (.ref b4), .val (.ref b6), .unset, .unset, .unset, .unset] [(.ref b6)])) (fun _ k => XS.aload X8.here hx rfl (hb hby at_80) rfl rfl k) ?_
        obtain ⟨cq10, kq10, qa10, qb10, qc10⟩ := isOf hZ rfl (A6.keep KK8)
        obtain ⟨_, _, ⟨T10, L10, k10, n10⟩, -, X10, ⟨Lc10, hQ10, l10, y10, z10⟩, st10⟩ := X8.virtualBack hx (y := (⟨"formwire/cli/RequestHead", "bodyLength", "()J"⟩ : MethodName)) (z := (⟨"formwire/cli/RequestHead", "bodyLength", "()J"⟩ : MethodName)) hown (mvT hZ (hw _ (List.mem_of_getElem? (i := 46) rfl))) (mvT hZ (hw _ (List.mem_of_getElem? (i := 47) rfl))) (notFace_of_selects (args := #[]) (mvT hZ (hw _ (List.mem_of_getElem? (i := 49) rfl)))) (mvT hZ (hw _ (List.mem_of_getElem? (i := 49) rfl))) (mvT hZ (hw _ (List.mem_of_getElem? (i := 48) rfl))) (by decide) (backOf (W := 0) (rm8 l Z a0 hw [] b6 (nar .boolean b) cl T8.heap n0 z9 FF8_3 FF8_2) hZ (hw _ (List.mem_of_getElem? (i := 50) rfl)) (hw _ (List.mem_of_getElem? (i := 28) rfl)) (by decide) (by decide)) qa10 qc10 (g := (mkF m 82 #[.val (.long q0), .second, .val (.int p1), .val (.int p2), .val (.int b), .val (.long cl), .second, .val (.ref b1), .val (.ref b4), .val (.ref b6), .unset, .unset, .unset, .unset] [(.ref b6)])) rfl (by rw [hml]; rfl) (Steps.refl _) (argsL := []) (rest := []) (lenOf pd7 rfl) rfl (by show 2 * 0 + _ ≤ _; exact Nat.le_of_eq rfl) (hb hby at_82) (fun _ _ => ⟨rfl, rfl, (by decide : 5 + 0 ≤ _), (by decide : 14 + 0 ≤ _)⟩)
        dsimp only [Pt.U, Pt.locs, Pt.cells, Pt.slots] at X10 l10 y10 z10 st10 hQ10
        subst l10 y10 z10
        obtain ⟨rfl, N10q, e10⟩ := hQ10
        have N10 := Fr.app N8 N10q
        refine Dn.by (U' := T10.setTop (mkF m 85 #[.val (.long q0), .second, .val (.int p1), .val (.int p2), .val (.int b), .val (.long cl), .second, .val (.ref b1), .val (.ref b4), .val (.ref b6), .unset, .unset, .unset, .unset] [(.long (bodyL b6 (nar .boolean b) cl))])) (fun _ k => st10.trans k) ?_
        rw [show (nar .boolean b) = b from own_b b hb0]
        refine Dn.by (U' := T10.setTop (mkF m 87 #[.val (.long q0), .second, .val (.int p1), .val (.int p2), .val (.int b), .val (.long cl), .second, .val (.ref b1), .val (.ref b4), .val (.ref b6), .val (.long (bodyL b6 b cl)), .second, .unset, .unset] [])) (fun _ k => XS.lstore X10.here hx rfl (hb hby at_85) rfl (l' := #[.val (.long q0), .second, .val (.int p1), .val (.int p2), .val (.int b), .val (.long cl), .second, .val (.ref b1), .val (.ref b4), .val (.ref b6), .val (.long (bodyL b6 b cl)), .second, .unset, .unset]) rfl k) ?_
        refine Dn.by (U' := T10.setTop (mkF m 89 #[.val (.long q0), .second, .val (.int p1), .val (.int p2), .val (.int b), .val (.long cl), .second, .val (.ref b1), .val (.ref b4), .val (.ref b6), .val (.long (bodyL b6 b cl)), .second, .unset, .unset] [(.int b)])) (fun _ k => XS.iload X10.here hx rfl (hb hby at_87) rfl k) ?_
        by_cases c89_11 : b = (0 : Int32)
        ·
          refine Dn.by (U' := T10.setTop (mkF m 100 #[.val (.long q0), .second, .val (.int p1), .val (.int p2), .val (.int b), .val (.long cl), .second, .val (.ref b1), .val (.ref b4), .val (.ref b6), .val (.long (bodyL b6 b cl)), .second, .unset, .unset] [])) (fun _ k => XS.ifYes X10.here hx rfl (pc0 := 89) (pc' := 100) rfl (hb hby at_89) rfl ((if0 _ _).trans (teq c89_11).1) (by decide) (by decide) k) ?_
          refine Dn.by (U' := T10.setTop (mkF m 102 #[.val (.long q0), .second, .val (.int p1), .val (.int p2), .val (.int b), .val (.long cl), .second, .val (.ref b1), .val (.ref b4), .val (.ref b6), .val (.long (bodyL b6 b cl)), .second, .unset, .unset] [(.long cl)])) (fun _ k => XS.lload X10.here hx rfl (hb hby at_100) rfl k) ?_
          refine Dn.by (U' := T10.setTop (mkF m 105 #[.val (.long q0), .second, .val (.int p1), .val (.int p2), .val (.int b), .val (.long cl), .second, .val (.ref b1), .val (.ref b4), .val (.ref b6), .val (.long (bodyL b6 b cl)), .second, .unset, .unset] [(.long (-1 : Int64)), (.long cl)])) (X10.ldc2Long hx hown (mvT hZ (hw _ (List.mem_of_getElem? (i := 55) rfl))) (g := (mkF m 102 #[.val (.long q0), .second, .val (.int p1), .val (.int p2), .val (.int b), .val (.long cl), .second, .val (.ref b1), .val (.ref b4), .val (.ref b6), .val (.long (bodyL b6 b cl)), .second, .unset, .unset] [(.long cl)])) rfl (hb hby at_102)) ?_
          refine Dn.by (U' := T10.setTop (mkF m 106 #[.val (.long q0), .second, .val (.int p1), .val (.int p2), .val (.int b), .val (.long cl), .second, .val (.ref b1), .val (.ref b4), .val (.ref b6), .val (.long (bodyL b6 b cl)), .second, .unset, .unset] [(.int (lcmpW cl (-1 : Int64)))])) (fun _ k => XS.lcmp X10.here hx rfl (hb hby at_105) rfl k) ?_
          by_cases c106_12 : cl = (-1 : Int64)
          ·
            refine Dn.by (U' := T10.setTop (mkF m 109 #[.val (.long q0), .second, .val (.int p1), .val (.int p2), .val (.int b), .val (.long cl), .second, .val (.ref b1), .val (.ref b4), .val (.ref b6), .val (.long (bodyL b6 b cl)), .second, .unset, .unset] [])) (fun _ k => XS.ifNo X10.here hx rfl (hb hby at_106) rfl ((if0 _ _).trans (teq ((lw_eq _ _).mpr c106_12)).2) k) ?_
            refine Dn.by (U' := T10.setTop (mkF m 110 #[.val (.long q0), .second, .val (.int p1), .val (.int p2), .val (.int b), .val (.long cl), .second, .val (.ref b1), .val (.ref b4), .val (.ref b6), .val (.long (bodyL b6 b cl)), .second, .unset, .unset] [(.long (0 : Int64))])) (fun _ k => XS.lconst X10.here hx rfl (hb hby at_109)  k) ?_
            refine Dn.by (U' := T10.setTop (mkF m 112 #[.val (.long q0), .second, .val (.int p1), .val (.int p2), .val (.int b), .val (.long cl), .second, .val (.ref b1), .val (.ref b4), .val (.ref b6), .val (.long (bodyL b6 b cl)), .second, .val (.long (0 : Int64)), .second] [])) (fun _ k => XS.lstore X10.here hx rfl (hb hby at_110) rfl (l' := #[.val (.long q0), .second, .val (.int p1), .val (.int p2), .val (.int b), .val (.long cl), .second, .val (.ref b1), .val (.ref b4), .val (.ref b6), .val (.long (bodyL b6 b cl)), .second, .val (.long (0 : Int64)), .second]) rfl k) ?_
            refine Dn.by (U' := T10.setTop (mkF m 119 #[.val (.long q0), .second, .val (.int p1), .val (.int p2), .val (.int b), .val (.long cl), .second, .val (.ref b1), .val (.ref b4), .val (.ref b6), .val (.long (bodyL b6 b cl)), .second, .val (.long (0 : Int64)), .second] [])) (fun _ k => XS.goto X10.here hx rfl (pc0 := 112) (pc' := 119) rfl (hb hby at_112) (by decide) (by decide) k) ?_
            refine Dn.by (U' := T10.setTop (mkF m 121 #[.val (.long q0), .second, .val (.int p1), .val (.int p2), .val (.int b), .val (.long cl), .second, .val (.ref b1), .val (.ref b4), .val (.ref b6), .val (.long (bodyL b6 b cl)), .second, .val (.long (0 : Int64)), .second] [(.long (bodyL b6 b cl))])) (fun _ k => XS.lload X10.here hx rfl (hb hby at_119) rfl k) ?_
            refine Dn.by (U' := T10.setTop (mkF m 123 #[.val (.long q0), .second, .val (.int p1), .val (.int p2), .val (.int b), .val (.long cl), .second, .val (.ref b1), .val (.ref b4), .val (.ref b6), .val (.long (bodyL b6 b cl)), .second, .val (.long (0 : Int64)), .second] [(.long (0 : Int64)), (.long (bodyL b6 b cl))])) (fun _ k => XS.lload X10.here hx rfl (hb hby at_121) rfl k) ?_
            refine Dn.by (U' := T10.setTop (mkF m 124 #[.val (.long q0), .second, .val (.int p1), .val (.int p2), .val (.int b), .val (.long cl), .second, .val (.ref b1), .val (.ref b4), .val (.ref b6), .val (.long (bodyL b6 b cl)), .second, .val (.long (0 : Int64)), .second] [(.int (lcmpW (bodyL b6 b cl) (0 : Int64)))])) (fun _ k => XS.lcmp X10.here hx rfl (hb hby at_123) rfl k) ?_
            refine Dn.by (U' := T10.setTop (mkF m 127 #[.val (.long q0), .second, .val (.int p1), .val (.int p2), .val (.int b), .val (.long cl), .second, .val (.ref b1), .val (.ref b4), .val (.ref b6), .val (.long (bodyL b6 b cl)), .second, .val (.long (0 : Int64)), .second] [])) (fun _ k => XS.ifNo X10.here hx rfl (hb hby at_124) rfl ((if0 _ _).trans (teq ((lw_eq _ _).mpr (own_2 _ _ _ c89_11 c106_12))).2) k) ?_
            refine Dn.by (U' := T10.setTop (mkF m 128 #[.val (.long q0), .second, .val (.int p1), .val (.int p2), .val (.int b), .val (.long cl), .second, .val (.ref b1), .val (.ref b4), .val (.ref b6), .val (.long (bodyL b6 b cl)), .second, .val (.long (0 : Int64)), .second] [(.int (1 : Int32))])) (fun _ k => XS.iconst X10.here hx rfl (hb hby at_127)  k) ?_
            refine Dn.by (U' := T10.setTop (mkF m 132 #[.val (.long q0), .second, .val (.int p1), .val (.int p2), .val (.int b), .val (.long cl), .second, .val (.ref b1), .val (.ref b4), .val (.ref b6), .val (.long (bodyL b6 b cl)), .second, .val (.long (0 : Int64)), .second] [(.int (1 : Int32))])) (fun _ k => XS.goto X10.here hx rfl (pc0 := 128) (pc' := 132) rfl (hb hby at_128) (by decide) (by decide) k) ?_
            refine Dn.out X10 (v := (some (.int (1 : Int32)))) (fun h => by rw [Bd.returns] at h; cases h) (BodyLoose.notSynchronized Bd) (fun _ hr => retN X10 hx (t := .boolean) Bd.returns (by simp) (hb hby at_132) hr) (by decide) (by decide) ?_
            rw [e10]
            exact ⟨rfl, N10⟩
          ·
            refine Dn.by (U' := T10.setTop (mkF m 115 #[.val (.long q0), .second, .val (.int p1), .val (.int p2), .val (.int b), .val (.long cl), .second, .val (.ref b1), .val (.ref b4), .val (.ref b6), .val (.long (bodyL b6 b cl)), .second, .unset, .unset] [])) (fun _ k => XS.ifYes X10.here hx rfl (pc0 := 106) (pc' := 115) rfl (hb hby at_106) rfl ((if0 _ _).trans (feq (fun z => c106_12 ((lw_eq _ _).mp z))).2) (by decide) (by decide) k) ?_
            refine Dn.by (U' := T10.setTop (mkF m 117 #[.val (.long q0), .second, .val (.int p1), .val (.int p2), .val (.int b), .val (.long cl), .second, .val (.ref b1), .val (.ref b4), .val (.ref b6), .val (.long (bodyL b6 b cl)), .second, .unset, .unset] [(.long cl)])) (fun _ k => XS.lload X10.here hx rfl (hb hby at_115) rfl k) ?_
            refine Dn.by (U' := T10.setTop (mkF m 119 #[.val (.long q0), .second, .val (.int p1), .val (.int p2), .val (.int b), .val (.long cl), .second, .val (.ref b1), .val (.ref b4), .val (.ref b6), .val (.long (bodyL b6 b cl)), .second, .val (.long cl), .second] [])) (fun _ k => XS.lstore X10.here hx rfl (hb hby at_117) rfl (l' := #[.val (.long q0), .second, .val (.int p1), .val (.int p2), .val (.int b), .val (.long cl), .second, .val (.ref b1), .val (.ref b4), .val (.ref b6), .val (.long (bodyL b6 b cl)), .second, .val (.long cl), .second]) rfl k) ?_
            refine Dn.by (U' := T10.setTop (mkF m 121 #[.val (.long q0), .second, .val (.int p1), .val (.int p2), .val (.int b), .val (.long cl), .second, .val (.ref b1), .val (.ref b4), .val (.ref b6), .val (.long (bodyL b6 b cl)), .second, .val (.long cl), .second] [(.long (bodyL b6 b cl))])) (fun _ k => XS.lload X10.here hx rfl (hb hby at_119) rfl k) ?_
            refine Dn.by (U' := T10.setTop (mkF m 123 #[.val (.long q0), .second, .val (.int p1), .val (.int p2), .val (.int b), .val (.long cl), .second, .val (.ref b1), .val (.ref b4), .val (.ref b6), .val (.long (bodyL b6 b cl)), .second, .val (.long cl), .second] [(.long cl), (.long (bodyL b6 b cl))])) (fun _ k => XS.lload X10.here hx rfl (hb hby at_121) rfl k) ?_
            refine Dn.by (U' := T10.setTop (mkF m 124 #[.val (.long q0), .second, .val (.int p1), .val (.int p2), .val (.int b), .val (.long cl), .second, .val (.ref b1), .val (.ref b4), .val (.ref b6), .val (.long (bodyL b6 b cl)), .second, .val (.long cl), .second] [(.int (lcmpW (bodyL b6 b cl) cl))])) (fun _ k => XS.lcmp X10.here hx rfl (hb hby at_123) rfl k) ?_
            refine Dn.by (U' := T10.setTop (mkF m 127 #[.val (.long q0), .second, .val (.int p1), .val (.int p2), .val (.int b), .val (.long cl), .second, .val (.ref b1), .val (.ref b4), .val (.ref b6), .val (.long (bodyL b6 b cl)), .second, .val (.long cl), .second] [])) (fun _ k => XS.ifNo X10.here hx rfl (hb hby at_124) rfl ((if0 _ _).trans (teq ((lw_eq _ _).mpr (own_3 _ _ _ c89_11 (hc0.resolve_left c106_12)))).2) k) ?_
            refine Dn.by (U' := T10.setTop (mkF m 128 #[.val (.long q0), .second, .val (.int p1), .val (.int p2), .val (.int b), .val (.long cl), .second, .val (.ref b1), .val (.ref b4), .val (.ref b6), .val (.long (bodyL b6 b cl)), .second, .val (.long cl), .second] [(.int (1 : Int32))])) (fun _ k => XS.iconst X10.here hx rfl (hb hby at_127)  k) ?_
            refine Dn.by (U' := T10.setTop (mkF m 132 #[.val (.long q0), .second, .val (.int p1), .val (.int p2), .val (.int b), .val (.long cl), .second, .val (.ref b1), .val (.ref b4), .val (.ref b6), .val (.long (bodyL b6 b cl)), .second, .val (.long cl), .second] [(.int (1 : Int32))])) (fun _ k => XS.goto X10.here hx rfl (pc0 := 128) (pc' := 132) rfl (hb hby at_128) (by decide) (by decide) k) ?_
            refine Dn.out X10 (v := (some (.int (1 : Int32)))) (fun h => by rw [Bd.returns] at h; cases h) (BodyLoose.notSynchronized Bd) (fun _ hr => retN X10 hx (t := .boolean) Bd.returns (by simp) (hb hby at_132) hr) (by decide) (by decide) ?_
            rw [e10]
            exact ⟨rfl, N10⟩
        ·
          refine Dn.by (U' := T10.setTop (mkF m 92 #[.val (.long q0), .second, .val (.int p1), .val (.int p2), .val (.int b), .val (.long cl), .second, .val (.ref b1), .val (.ref b4), .val (.ref b6), .val (.long (bodyL b6 b cl)), .second, .unset, .unset] [])) (fun _ k => XS.ifNo X10.here hx rfl (hb hby at_89) rfl ((if0 _ _).trans (feq c89_11).1) k) ?_
          refine Dn.by (U' := T10.setTop (mkF m 95 #[.val (.long q0), .second, .val (.int p1), .val (.int p2), .val (.int b), .val (.long cl), .second, .val (.ref b1), .val (.ref b4), .val (.ref b6), .val (.long (bodyL b6 b cl)), .second, .unset, .unset] [(.long (-1 : Int64))])) (X10.ldc2Long hx hown (mvT hZ (hw _ (List.mem_of_getElem? (i := 55) rfl))) (g := (mkF m 92 #[.val (.long q0), .second, .val (.int p1), .val (.int p2), .val (.int b), .val (.long cl), .second, .val (.ref b1), .val (.ref b4), .val (.ref b6), .val (.long (bodyL b6 b cl)), .second, .unset, .unset] [])) rfl (hb hby at_92)) ?_
          refine Dn.by (U' := T10.setTop (mkF m 97 #[.val (.long q0), .second, .val (.int p1), .val (.int p2), .val (.int b), .val (.long cl), .second, .val (.ref b1), .val (.ref b4), .val (.ref b6), .val (.long (bodyL b6 b cl)), .second, .val (.long (-1 : Int64)), .second] [])) (fun _ k => XS.lstore X10.here hx rfl (hb hby at_95) rfl (l' := #[.val (.long q0), .second, .val (.int p1), .val (.int p2), .val (.int b), .val (.long cl), .second, .val (.ref b1), .val (.ref b4), .val (.ref b6), .val (.long (bodyL b6 b cl)), .second, .val (.long (-1 : Int64)), .second]) rfl k) ?_
          refine Dn.by (U' := T10.setTop (mkF m 119 #[.val (.long q0), .second, .val (.int p1), .val (.int p2), .val (.int b), .val (.long cl), .second, .val (.ref b1), .val (.ref b4), .val (.ref b6), .val (.long (bodyL b6 b cl)), .second, .val (.long (-1 : Int64)), .second] [])) (fun _ k => XS.goto X10.here hx rfl (pc0 := 97) (pc' := 119) rfl (hb hby at_97) (by decide) (by decide) k) ?_
          refine Dn.by (U' := T10.setTop (mkF m 121 #[.val (.long q0), .second, .val (.int p1), .val (.int p2), .val (.int b), .val (.long cl), .second, .val (.ref b1), .val (.ref b4), .val (.ref b6), .val (.long (bodyL b6 b cl)), .second, .val (.long (-1 : Int64)), .second] [(.long (bodyL b6 b cl))])) (fun _ k => XS.lload X10.here hx rfl (hb hby at_119) rfl k) ?_
          refine Dn.by (U' := T10.setTop (mkF m 123 #[.val (.long q0), .second, .val (.int p1), .val (.int p2), .val (.int b), .val (.long cl), .second, .val (.ref b1), .val (.ref b4), .val (.ref b6), .val (.long (bodyL b6 b cl)), .second, .val (.long (-1 : Int64)), .second] [(.long (-1 : Int64)), (.long (bodyL b6 b cl))])) (fun _ k => XS.lload X10.here hx rfl (hb hby at_121) rfl k) ?_
          refine Dn.by (U' := T10.setTop (mkF m 124 #[.val (.long q0), .second, .val (.int p1), .val (.int p2), .val (.int b), .val (.long cl), .second, .val (.ref b1), .val (.ref b4), .val (.ref b6), .val (.long (bodyL b6 b cl)), .second, .val (.long (-1 : Int64)), .second] [(.int (lcmpW (bodyL b6 b cl) (-1 : Int64)))])) (fun _ k => XS.lcmp X10.here hx rfl (hb hby at_123) rfl k) ?_
          refine Dn.by (U' := T10.setTop (mkF m 127 #[.val (.long q0), .second, .val (.int p1), .val (.int p2), .val (.int b), .val (.long cl), .second, .val (.ref b1), .val (.ref b4), .val (.ref b6), .val (.long (bodyL b6 b cl)), .second, .val (.long (-1 : Int64)), .second] [])) (fun _ k => XS.ifNo X10.here hx rfl (hb hby at_124) rfl ((if0 _ _).trans (teq ((lw_eq _ _).mpr (own_1 _ _ _ c89_11))).2) k) ?_
          refine Dn.by (U' := T10.setTop (mkF m 128 #[.val (.long q0), .second, .val (.int p1), .val (.int p2), .val (.int b), .val (.long cl), .second, .val (.ref b1), .val (.ref b4), .val (.ref b6), .val (.long (bodyL b6 b cl)), .second, .val (.long (-1 : Int64)), .second] [(.int (1 : Int32))])) (fun _ k => XS.iconst X10.here hx rfl (hb hby at_127)  k) ?_
          refine Dn.by (U' := T10.setTop (mkF m 132 #[.val (.long q0), .second, .val (.int p1), .val (.int p2), .val (.int b), .val (.long cl), .second, .val (.ref b1), .val (.ref b4), .val (.ref b6), .val (.long (bodyL b6 b cl)), .second, .val (.long (-1 : Int64)), .second] [(.int (1 : Int32))])) (fun _ k => XS.goto X10.here hx rfl (pc0 := 128) (pc' := 132) rfl (hb hby at_128) (by decide) (by decide) k) ?_
          refine Dn.out X10 (v := (some (.int (1 : Int32)))) (fun h => by rw [Bd.returns] at h; cases h) (BodyLoose.notSynchronized Bd) (fun _ hr => retN X10 hx (t := .boolean) Bd.returns (by simp) (hb hby at_132) hr) (by decide) (by decide) ?_
          rw [e10]
          exact ⟨rfl, N10⟩
      ·
        refine Dn.by (U' := T1.setTop (mkF m 45 #[.val (.long q0), .second, .val (.int p1), .val (.int p2), .val (.int b), .val (.long cl), .second, .val (.ref b1), .unset, .unset, .unset, .unset, .unset, .unset] [])) (fun _ k => XS.ifNo X1.here hx rfl (hb hby at_42) rfl ((if0 _ _).trans (feq c42_3).1) k) ?_
        refine Dn.by (U' := T1.setTop (mkF m 46 #[.val (.long q0), .second, .val (.int p1), .val (.int p2), .val (.int b), .val (.long cl), .second, .val (.ref b1), .unset, .unset, .unset, .unset, .unset, .unset] [.null])) (fun _ k => XS.aconstNull X1.here hx rfl (hb hby at_45)  k) ?_
        refine Dn.by (U' := T1.setTop (mkF m 61 #[.val (.long q0), .second, .val (.int p1), .val (.int p2), .val (.int b), .val (.long cl), .second, .val (.ref b1), .unset, .unset, .unset, .unset, .unset, .unset] [.null])) (fun _ k => XS.goto X1.here hx rfl (pc0 := 46) (pc' := 61) rfl (hb hby at_46) (by decide) (by decide) k) ?_
        refine Dn.by (U' := T1.setTop (mkF m 63 #[.val (.long q0), .second, .val (.int p1), .val (.int p2), .val (.int b), .val (.long cl), .second, .val (.ref b1), .val .null, .unset, .unset, .unset, .unset, .unset] [])) (fun _ k => XS.astore X1.here hx rfl (hb hby at_61) rfl rfl (l' := #[.val (.long q0), .second, .val (.int p1), .val (.int p2), .val (.int b), .val (.long cl), .second, .val (.ref b1), .val .null, .unset, .unset, .unset, .unset, .unset]) rfl k) ?_
        obtain ⟨T13, h13, X13, e13, E13, A13, D13, -, st13⟩ := newO X1 hx hZ hown (hw _ (List.mem_of_getElem? (i := 26) rfl)) (hw _ (List.mem_of_getElem? (i := 27) rfl)) (hw _ (List.mem_of_getElem? (i := 28) rfl)) rfl (g := (mkF m 63 #[.val (.long q0), .second, .val (.int p1), .val (.int p2), .val (.int b), .val (.long cl), .second, .val (.ref b1), .val .null, .unset, .unset, .unset, .unset, .unset] [])) rfl (hb hby at_63) (by decide) (by decide)
        obtain ⟨b13, g13⟩ : ∃ z, z = T1.heap.size := ⟨_, rfl⟩
        rw [← g13] at A13 D13 st13
        have g_b13 : n0 ≤ b13 := Nat.le_trans z2 (Nat.le_of_eq g13.symm)
        have sz_b13 : h0.size ≤ b13 := Nat.le_trans K2.1 (Nat.le_of_eq g13.symm)
        have ne_b1_b13 : b1 ≠ b13 := Nat.ne_of_lt (Nat.lt_of_lt_of_le EE1.lt (Nat.le_of_eq g13.symm))
        have K14 : Keep h0 h13 [] := (K2.ext E13)
        have z14 : n0 ≤ h13.size := (Nat.le_trans z2 E13.1)
        have O14 : Old Z n0 h13 := O2.ext E13
        have F_target_b13 : Fld Z h13 b13 "formwire/cli/RequestHead" "target" "Ljava/lang/String;" .null := D13 (Or.inr (hw _ (List.mem_of_getElem? (i := 39) rfl))) (ty := (.object "java/lang/String")) (by decide)
        have F_contentType_b13 : Fld Z h13 b13 "formwire/cli/RequestHead" "contentType" "Ljava/lang/String;" .null := D13 (Or.inr (hw _ (List.mem_of_getElem? (i := 41) rfl))) (ty := (.object "java/lang/String")) (by decide)
        have F_contentLength_b13 : Fld Z h13 b13 "formwire/cli/RequestHead" "contentLength" "J" (.long (0 : Int64)) := D13 (Or.inr (hw _ (List.mem_of_getElem? (i := 43) rfl))) (ty := .long) (by decide)
        have F_transferCoded_b13 : Fld Z h13 b13 "formwire/cli/RequestHead" "transferCoded" "Z" (.int (0 : Int32)) := D13 (Or.inr (hw _ (List.mem_of_getElem? (i := 45) rfl))) (ty := .boolean) (by decide)
        refine Dn.by (U' := T13.setTop (mkF m 66 #[.val (.long q0), .second, .val (.int p1), .val (.int p2), .val (.int b), .val (.long cl), .second, .val (.ref b1), .val .null, .unset, .unset, .unset, .unset, .unset] [(.ref b13)])) st13 ?_
        refine Dn.by (U' := T13.setTop (mkF m 67 #[.val (.long q0), .second, .val (.int p1), .val (.int p2), .val (.int b), .val (.long cl), .second, .val (.ref b1), .val .null, .unset, .unset, .unset, .unset, .unset] [(.ref b13), (.ref b13)])) (fun _ k => XS.dup X13.here hx rfl (hb hby at_66) rfl rfl k) ?_
        refine Dn.by (U' := T13.setTop (mkF m 69 #[.val (.long q0), .second, .val (.int p1), .val (.int p2), .val (.int b), .val (.long cl), .second, .val (.ref b1), .val .null, .unset, .unset, .unset, .unset, .unset] [(.ref b1), (.ref b13), (.ref b13)])) (fun _ k => XS.aload X13.here hx rfl (hb hby at_67) rfl rfl k) ?_
        refine Dn.by (U' := T13.setTop (mkF m 71 #[.val (.long q0), .second, .val (.int p1), .val (.int p2), .val (.int b), .val (.long cl), .second, .val (.ref b1), .val .null, .unset, .unset, .unset, .unset, .unset] [.null, (.ref b1), (.ref b13), (.ref b13)])) (fun _ k => XS.aload X13.here hx rfl (hb hby at_69) rfl rfl k) ?_
        refine Dn.by (U' := T13.setTop (mkF m 73 #[.val (.long q0), .second, .val (.int p1), .val (.int p2), .val (.int b), .val (.long cl), .second, .val (.ref b1), .val .null, .unset, .unset, .unset, .unset, .unset] [(.long cl), .null, (.ref b1), (.ref b13), (.ref b13)])) (fun _ k => XS.lload X13.here hx rfl (hb hby at_71) rfl k) ?_
        refine Dn.by (U' := T13.setTop (mkF m 75 #[.val (.long q0), .second, .val (.int p1), .val (.int p2), .val (.int b), .val (.long cl), .second, .val (.ref b1), .val .null, .unset, .unset, .unset, .unset, .unset] [(.int b), (.long cl), .null, (.ref b1), (.ref b13), (.ref b13)])) (fun _ k => XS.iload X13.here hx rfl (hb hby at_73) rfl k) ?_
        obtain ⟨_, _, ⟨T15, L15, k15, n15⟩, -, X15, ⟨Lc15, hQ15, l15, y15, z15⟩, st15⟩ := X13.specialBack hx (y := (⟨"formwire/cli/RequestHead", "<init>", "(Ljava/lang/String;Ljava/lang/String;JZ)V"⟩ : MethodName)) rfl hown (mvT hZ (hw _ (List.mem_of_getElem? (i := 29) rfl))) (mvT hZ (hw _ (List.mem_of_getElem? (i := 30) rfl))) (mvT hZ (hw _ (List.mem_of_getElem? (i := 31) rfl))) (by decide) (backOf (W := 1) (rm6n l Z a0 hw [] b13 b1 cl b (.null : Value) (.null : Value) ((.long (0 : Int64)) : Value) ((.int (0 : Int32)) : Value) h13 n0 z14 g_b13 A13 F_target_b13 F_contentType_b13 F_contentLength_b13 F_transferCoded_b13) hZ (hw _ (List.mem_of_getElem? (i := 31) rfl)) (hw _ (List.mem_of_getElem? (i := 28) rfl)) (by decide) (by decide)) (g := (mkF m 75 #[.val (.long q0), .second, .val (.int p1), .val (.int p2), .val (.int b), .val (.long cl), .second, .val (.ref b1), .val .null, .unset, .unset, .unset, .unset, .unset] [(.int b), (.long cl), .null, (.ref b1), (.ref b13), (.ref b13)])) rfl (by rw [hml]; rfl) (Steps.refl _) (a := b13) (argsL := [(.ref b1), .null, (.long cl), (.int b)]) (rest := [(.ref b13)]) (lenOf pd6 rfl) rfl (by show 2 * 0 + _ ≤ _; exact Nat.le_of_eq rfl) (hb hby at_75) (fun _ _ => ⟨rfl, e13, (by decide : 3 + 0 ≤ _), (by decide : 9 + 0 ≤ _)⟩)
        dsimp only [Pt.U, Pt.locs, Pt.cells, Pt.slots] at X15 l15 y15 z15 st15 hQ15
        subst l15 y15 z15
        obtain ⟨rfl, N15q, KK15, EE15, FF15_0, FF15_1, FF15_2, FF15_3⟩ := hQ15
        have N15 := Fr.app N1 N15q
        have K16 : Keep h0 T15.heap [] := (K14.trans KK15 (allS (Or.inr sz_b13) all0))
        have z16 : n0 ≤ T15.heap.size := (Nat.le_trans z14 KK15.1)
        have O16 : Old Z n0 T15.heap := O14.keep KK15 (allS g_b13 all0)
        refine Dn.by (U' := T15.setTop (mkF m 78 #[.val (.long q0), .second, .val (.int p1), .val (.int p2), .val (.int b), .val (.long cl), .second, .val (.ref b1), .val .null, .unset, .unset, .unset, .unset, .unset] [(.ref b13)])) (fun _ k => st15.trans k) ?_
        refine Dn.by (U' := T15.setTop (mkF m 80 #[.val (.long q0), .second, .val (.int p1), .val (.int p2), .val (.int b), .val (.long cl), .second, .val (.ref b1), .val .null, .val (.ref b13), .unset, .unset, .unset, .unset] [])) (fun _ k => XS.astore X15.here hx rfl (hb hby at_78) rfl rfl (l' := #[.val (.long q0), .second, .val (.int p1), .val (.int p2), .val (.int b), .val (.long cl), .second, .val (.ref b1), .val .null, .val (.ref b13), .unset, .unset, .unset, .unset]) rfl k) ?_
        refine Dn.by (U' := T15.setTop (mkF m 82 #[.val (.long q0), .second, .val (.int p1), .val (.int p2), .val (.int b), .val (.long cl), .second, .val (.ref b1), .val .null, .val (.ref b13), .unset, .unset, .unset, .unset] [(.ref b13)])) (fun _ k => XS.aload X15.here hx rfl (hb hby at_80) rfl rfl k) ?_
        obtain ⟨cq17, kq17, qa17, qb17, qc17⟩ := isOf hZ rfl (A13.keep KK15)
        obtain ⟨_, _, ⟨T17, L17, k17, n17⟩, -, X17, ⟨Lc17, hQ17, l17, y17, z17⟩, st17⟩ := X15.virtualBack hx (y := (⟨"formwire/cli/RequestHead", "bodyLength", "()J"⟩ : MethodName)) (z := (⟨"formwire/cli/RequestHead", "bodyLength", "()J"⟩ : MethodName)) hown (mvT hZ (hw _ (List.mem_of_getElem? (i := 46) rfl))) (mvT hZ (hw _ (List.mem_of_getElem? (i := 47) rfl))) (notFace_of_selects (args := #[]) (mvT hZ (hw _ (List.mem_of_getElem? (i := 49) rfl)))) (mvT hZ (hw _ (List.mem_of_getElem? (i := 49) rfl))) (mvT hZ (hw _ (List.mem_of_getElem? (i := 48) rfl))) (by decide) (backOf (W := 0) (rm8 l Z a0 hw [] b13 (nar .boolean b) cl T15.heap n0 z16 FF15_3 FF15_2) hZ (hw _ (List.mem_of_getElem? (i := 50) rfl)) (hw _ (List.mem_of_getElem? (i := 28) rfl)) (by decide) (by decide)) qa17 qc17 (g := (mkF m 82 #[.val (.long q0), .second, .val (.int p1), .val (.int p2), .val (.int b), .val (.long cl), .second, .val (.ref b1), .val .null, .val (.ref b13), .unset, .unset, .unset, .unset] [(.ref b13)])) rfl (by rw [hml]; rfl) (Steps.refl _) (argsL := []) (rest := []) (lenOf pd7 rfl) rfl (by show 2 * 0 + _ ≤ _; exact Nat.le_of_eq rfl) (hb hby at_82) (fun _ _ => ⟨rfl, rfl, (by decide : 3 + 0 ≤ _), (by decide : 9 + 0 ≤ _)⟩)
        dsimp only [Pt.U, Pt.locs, Pt.cells, Pt.slots] at X17 l17 y17 z17 st17 hQ17
        subst l17 y17 z17
        obtain ⟨rfl, N17q, e17⟩ := hQ17
        have N17 := Fr.app N15 N17q
        refine Dn.by (U' := T17.setTop (mkF m 85 #[.val (.long q0), .second, .val (.int p1), .val (.int p2), .val (.int b), .val (.long cl), .second, .val (.ref b1), .val .null, .val (.ref b13), .unset, .unset, .unset, .unset] [(.long (bodyL b13 (nar .boolean b) cl))])) (fun _ k => st17.trans k) ?_
        rw [show (nar .boolean b) = b from own_b b hb0]
        refine Dn.by (U' := T17.setTop (mkF m 87 #[.val (.long q0), .second, .val (.int p1), .val (.int p2), .val (.int b), .val (.long cl), .second, .val (.ref b1), .val .null, .val (.ref b13), .val (.long (bodyL b13 b cl)), .second, .unset, .unset] [])) (fun _ k => XS.lstore X17.here hx rfl (hb hby at_85) rfl (l' := #[.val (.long q0), .second, .val (.int p1), .val (.int p2), .val (.int b), .val (.long cl), .second, .val (.ref b1), .val .null, .val (.ref b13), .val (.long (bodyL b13 b cl)), .second, .unset, .unset]) rfl k) ?_
        refine Dn.by (U' := T17.setTop (mkF m 89 #[.val (.long q0), .second, .val (.int p1), .val (.int p2), .val (.int b), .val (.long cl), .second, .val (.ref b1), .val .null, .val (.ref b13), .val (.long (bodyL b13 b cl)), .second, .unset, .unset] [(.int b)])) (fun _ k => XS.iload X17.here hx rfl (hb hby at_87) rfl k) ?_
        by_cases c89_18 : b = (0 : Int32)
        ·
          refine Dn.by (U' := T17.setTop (mkF m 100 #[.val (.long q0), .second, .val (.int p1), .val (.int p2), .val (.int b), .val (.long cl), .second, .val (.ref b1), .val .null, .val (.ref b13), .val (.long (bodyL b13 b cl)), .second, .unset, .unset] [])) (fun _ k => XS.ifYes X17.here hx rfl (pc0 := 89) (pc' := 100) rfl (hb hby at_89) rfl ((if0 _ _).trans (teq c89_18).1) (by decide) (by decide) k) ?_
          refine Dn.by (U' := T17.setTop (mkF m 102 #[.val (.long q0), .second, .val (.int p1), .val (.int p2), .val (.int b), .val (.long cl), .second, .val (.ref b1), .val .null, .val (.ref b13), .val (.long (bodyL b13 b cl)), .second, .unset, .unset] [(.long cl)])) (fun _ k => XS.lload X17.here hx rfl (hb hby at_100) rfl k) ?_
          refine Dn.by (U' := T17.setTop (mkF m 105 #[.val (.long q0), .second, .val (.int p1), .val (.int p2), .val (.int b), .val (.long cl), .second, .val (.ref b1), .val .null, .val (.ref b13), .val (.long (bodyL b13 b cl)), .second, .unset, .unset] [(.long (-1 : Int64)), (.long cl)])) (X17.ldc2Long hx hown (mvT hZ (hw _ (List.mem_of_getElem? (i := 55) rfl))) (g := (mkF m 102 #[.val (.long q0), .second, .val (.int p1), .val (.int p2), .val (.int b), .val (.long cl), .second, .val (.ref b1), .val .null, .val (.ref b13), .val (.long (bodyL b13 b cl)), .second, .unset, .unset] [(.long cl)])) rfl (hb hby at_102)) ?_
          refine Dn.by (U' := T17.setTop (mkF m 106 #[.val (.long q0), .second, .val (.int p1), .val (.int p2), .val (.int b), .val (.long cl), .second, .val (.ref b1), .val .null, .val (.ref b13), .val (.long (bodyL b13 b cl)), .second, .unset, .unset] [(.int (lcmpW cl (-1 : Int64)))])) (fun _ k => XS.lcmp X17.here hx rfl (hb hby at_105) rfl k) ?_
          by_cases c106_19 : cl = (-1 : Int64)
          ·
            refine Dn.by (U' := T17.setTop (mkF m 109 #[.val (.long q0), .second, .val (.int p1), .val (.int p2), .val (.int b), .val (.long cl), .second, .val (.ref b1), .val .null, .val (.ref b13), .val (.long (bodyL b13 b cl)), .second, .unset, .unset] [])) (fun _ k => XS.ifNo X17.here hx rfl (hb hby at_106) rfl ((if0 _ _).trans (teq ((lw_eq _ _).mpr c106_19)).2) k) ?_
            refine Dn.by (U' := T17.setTop (mkF m 110 #[.val (.long q0), .second, .val (.int p1), .val (.int p2), .val (.int b), .val (.long cl), .second, .val (.ref b1), .val .null, .val (.ref b13), .val (.long (bodyL b13 b cl)), .second, .unset, .unset] [(.long (0 : Int64))])) (fun _ k => XS.lconst X17.here hx rfl (hb hby at_109)  k) ?_
            refine Dn.by (U' := T17.setTop (mkF m 112 #[.val (.long q0), .second, .val (.int p1), .val (.int p2), .val (.int b), .val (.long cl), .second, .val (.ref b1), .val .null, .val (.ref b13), .val (.long (bodyL b13 b cl)), .second, .val (.long (0 : Int64)), .second] [])) (fun _ k => XS.lstore X17.here hx rfl (hb hby at_110) rfl (l' := #[.val (.long q0), .second, .val (.int p1), .val (.int p2), .val (.int b), .val (.long cl), .second, .val (.ref b1), .val .null, .val (.ref b13), .val (.long (bodyL b13 b cl)), .second, .val (.long (0 : Int64)), .second]) rfl k) ?_
            refine Dn.by (U' := T17.setTop (mkF m 119 #[.val (.long q0), .second, .val (.int p1), .val (.int p2), .val (.int b), .val (.long cl), .second, .val (.ref b1), .val .null, .val (.ref b13), .val (.long (bodyL b13 b cl)), .second, .val (.long (0 : Int64)), .second] [])) (fun _ k => XS.goto X17.here hx rfl (pc0 := 112) (pc' := 119) rfl (hb hby at_112) (by decide) (by decide) k) ?_
            refine Dn.by (U' := T17.setTop (mkF m 121 #[.val (.long q0), .second, .val (.int p1), .val (.int p2), .val (.int b), .val (.long cl), .second, .val (.ref b1), .val .null, .val (.ref b13), .val (.long (bodyL b13 b cl)), .second, .val (.long (0 : Int64)), .second] [(.long (bodyL b13 b cl))])) (fun _ k => XS.lload X17.here hx rfl (hb hby at_119) rfl k) ?_
            refine Dn.by (U' := T17.setTop (mkF m 123 #[.val (.long q0), .second, .val (.int p1), .val (.int p2), .val (.int b), .val (.long cl), .second, .val (.ref b1), .val .null, .val (.ref b13), .val (.long (bodyL b13 b cl)), .second, .val (.long (0 : Int64)), .second] [(.long (0 : Int64)), (.long (bodyL b13 b cl))])) (fun _ k => XS.lload X17.here hx rfl (hb hby at_121) rfl k) ?_
            refine Dn.by (U' := T17.setTop (mkF m 124 #[.val (.long q0), .second, .val (.int p1), .val (.int p2), .val (.int b), .val (.long cl), .second, .val (.ref b1), .val .null, .val (.ref b13), .val (.long (bodyL b13 b cl)), .second, .val (.long (0 : Int64)), .second] [(.int (lcmpW (bodyL b13 b cl) (0 : Int64)))])) (fun _ k => XS.lcmp X17.here hx rfl (hb hby at_123) rfl k) ?_
            refine Dn.by (U' := T17.setTop (mkF m 127 #[.val (.long q0), .second, .val (.int p1), .val (.int p2), .val (.int b), .val (.long cl), .second, .val (.ref b1), .val .null, .val (.ref b13), .val (.long (bodyL b13 b cl)), .second, .val (.long (0 : Int64)), .second] [])) (fun _ k => XS.ifNo X17.here hx rfl (hb hby at_124) rfl ((if0 _ _).trans (teq ((lw_eq _ _).mpr (own_2 _ _ _ c89_18 c106_19))).2) k) ?_
            refine Dn.by (U' := T17.setTop (mkF m 128 #[.val (.long q0), .second, .val (.int p1), .val (.int p2), .val (.int b), .val (.long cl), .second, .val (.ref b1), .val .null, .val (.ref b13), .val (.long (bodyL b13 b cl)), .second, .val (.long (0 : Int64)), .second] [(.int (1 : Int32))])) (fun _ k => XS.iconst X17.here hx rfl (hb hby at_127)  k) ?_
            refine Dn.by (U' := T17.setTop (mkF m 132 #[.val (.long q0), .second, .val (.int p1), .val (.int p2), .val (.int b), .val (.long cl), .second, .val (.ref b1), .val .null, .val (.ref b13), .val (.long (bodyL b13 b cl)), .second, .val (.long (0 : Int64)), .second] [(.int (1 : Int32))])) (fun _ k => XS.goto X17.here hx rfl (pc0 := 128) (pc' := 132) rfl (hb hby at_128) (by decide) (by decide) k) ?_
            refine Dn.out X17 (v := (some (.int (1 : Int32)))) (fun h => by rw [Bd.returns] at h; cases h) (BodyLoose.notSynchronized Bd) (fun _ hr => retN X17 hx (t := .boolean) Bd.returns (by simp) (hb hby at_132) hr) (by decide) (by decide) ?_
            rw [e17]
            exact ⟨rfl, N17⟩
          ·
            refine Dn.by (U' := T17.setTop (mkF m 115 #[.val (.long q0), .second, .val (.int p1), .val (.int p2), .val (.int b), .val (.long cl), .second, .val (.ref b1), .val .null, .val (.ref b13), .val (.long (bodyL b13 b cl)), .second, .unset, .unset] [])) (fun _ k => XS.ifYes X17.here hx rfl (pc0 := 106) (pc' := 115) rfl (hb hby at_106) rfl ((if0 _ _).trans (feq (fun z => c106_19 ((lw_eq _ _).mp z))).2) (by decide) (by decide) k) ?_
            refine Dn.by (U' := T17.setTop (mkF m 117 #[.val (.long q0), .second, .val (.int p1), .val (.int p2), .val (.int b), .val (.long cl), .second, .val (.ref b1), .val .null, .val (.ref b13), .val (.long (bodyL b13 b cl)), .second, .unset, .unset] [(.long cl)])) (fun _ k => XS.lload X17.here hx rfl (hb hby at_115) rfl k) ?_
            refine Dn.by (U' := T17.setTop (mkF m 119 #[.val (.long q0), .second, .val (.int p1), .val (.int p2), .val (.int b), .val (.long cl), .second, .val (.ref b1), .val .null, .val (.ref b13), .val (.long (bodyL b13 b cl)), .second, .val (.long cl), .second] [])) (fun _ k => XS.lstore X17.here hx rfl (hb hby at_117) rfl (l' := #[.val (.long q0), .second, .val (.int p1), .val (.int p2), .val (.int b), .val (.long cl), .second, .val (.ref b1), .val .null, .val (.ref b13), .val (.long (bodyL b13 b cl)), .second, .val (.long cl), .second]) rfl k) ?_
            refine Dn.by (U' := T17.setTop (mkF m 121 #[.val (.long q0), .second, .val (.int p1), .val (.int p2), .val (.int b), .val (.long cl), .second, .val (.ref b1), .val .null, .val (.ref b13), .val (.long (bodyL b13 b cl)), .second, .val (.long cl), .second] [(.long (bodyL b13 b cl))])) (fun _ k => XS.lload X17.here hx rfl (hb hby at_119) rfl k) ?_
            refine Dn.by (U' := T17.setTop (mkF m 123 #[.val (.long q0), .second, .val (.int p1), .val (.int p2), .val (.int b), .val (.long cl), .second, .val (.ref b1), .val .null, .val (.ref b13), .val (.long (bodyL b13 b cl)), .second, .val (.long cl), .second] [(.long cl), (.long (bodyL b13 b cl))])) (fun _ k => XS.lload X17.here hx rfl (hb hby at_121) rfl k) ?_
            refine Dn.by (U' := T17.setTop (mkF m 124 #[.val (.long q0), .second, .val (.int p1), .val (.int p2), .val (.int b), .val (.long cl), .second, .val (.ref b1), .val .null, .val (.ref b13), .val (.long (bodyL b13 b cl)), .second, .val (.long cl), .second] [(.int (lcmpW (bodyL b13 b cl) cl))])) (fun _ k => XS.lcmp X17.here hx rfl (hb hby at_123) rfl k) ?_
            refine Dn.by (U' := T17.setTop (mkF m 127 #[.val (.long q0), .second, .val (.int p1), .val (.int p2), .val (.int b), .val (.long cl), .second, .val (.ref b1), .val .null, .val (.ref b13), .val (.long (bodyL b13 b cl)), .second, .val (.long cl), .second] [])) (fun _ k => XS.ifNo X17.here hx rfl (hb hby at_124) rfl ((if0 _ _).trans (teq ((lw_eq _ _).mpr (own_3 _ _ _ c89_18 (hc0.resolve_left c106_19)))).2) k) ?_
            refine Dn.by (U' := T17.setTop (mkF m 128 #[.val (.long q0), .second, .val (.int p1), .val (.int p2), .val (.int b), .val (.long cl), .second, .val (.ref b1), .val .null, .val (.ref b13), .val (.long (bodyL b13 b cl)), .second, .val (.long cl), .second] [(.int (1 : Int32))])) (fun _ k => XS.iconst X17.here hx rfl (hb hby at_127)  k) ?_
            refine Dn.by (U' := T17.setTop (mkF m 132 #[.val (.long q0), .second, .val (.int p1), .val (.int p2), .val (.int b), .val (.long cl), .second, .val (.ref b1), .val .null, .val (.ref b13), .val (.long (bodyL b13 b cl)), .second, .val (.long cl), .second] [(.int (1 : Int32))])) (fun _ k => XS.goto X17.here hx rfl (pc0 := 128) (pc' := 132) rfl (hb hby at_128) (by decide) (by decide) k) ?_
            refine Dn.out X17 (v := (some (.int (1 : Int32)))) (fun h => by rw [Bd.returns] at h; cases h) (BodyLoose.notSynchronized Bd) (fun _ hr => retN X17 hx (t := .boolean) Bd.returns (by simp) (hb hby at_132) hr) (by decide) (by decide) ?_
            rw [e17]
            exact ⟨rfl, N17⟩
        ·
          refine Dn.by (U' := T17.setTop (mkF m 92 #[.val (.long q0), .second, .val (.int p1), .val (.int p2), .val (.int b), .val (.long cl), .second, .val (.ref b1), .val .null, .val (.ref b13), .val (.long (bodyL b13 b cl)), .second, .unset, .unset] [])) (fun _ k => XS.ifNo X17.here hx rfl (hb hby at_89) rfl ((if0 _ _).trans (feq c89_18).1) k) ?_
          refine Dn.by (U' := T17.setTop (mkF m 95 #[.val (.long q0), .second, .val (.int p1), .val (.int p2), .val (.int b), .val (.long cl), .second, .val (.ref b1), .val .null, .val (.ref b13), .val (.long (bodyL b13 b cl)), .second, .unset, .unset] [(.long (-1 : Int64))])) (X17.ldc2Long hx hown (mvT hZ (hw _ (List.mem_of_getElem? (i := 55) rfl))) (g := (mkF m 92 #[.val (.long q0), .second, .val (.int p1), .val (.int p2), .val (.int b), .val (.long cl), .second, .val (.ref b1), .val .null, .val (.ref b13), .val (.long (bodyL b13 b cl)), .second, .unset, .unset] [])) rfl (hb hby at_92)) ?_
          refine Dn.by (U' := T17.setTop (mkF m 97 #[.val (.long q0), .second, .val (.int p1), .val (.int p2), .val (.int b), .val (.long cl), .second, .val (.ref b1), .val .null, .val (.ref b13), .val (.long (bodyL b13 b cl)), .second, .val (.long (-1 : Int64)), .second] [])) (fun _ k => XS.lstore X17.here hx rfl (hb hby at_95) rfl (l' := #[.val (.long q0), .second, .val (.int p1), .val (.int p2), .val (.int b), .val (.long cl), .second, .val (.ref b1), .val .null, .val (.ref b13), .val (.long (bodyL b13 b cl)), .second, .val (.long (-1 : Int64)), .second]) rfl k) ?_
          refine Dn.by (U' := T17.setTop (mkF m 119 #[.val (.long q0), .second, .val (.int p1), .val (.int p2), .val (.int b), .val (.long cl), .second, .val (.ref b1), .val .null, .val (.ref b13), .val (.long (bodyL b13 b cl)), .second, .val (.long (-1 : Int64)), .second] [])) (fun _ k => XS.goto X17.here hx rfl (pc0 := 97) (pc' := 119) rfl (hb hby at_97) (by decide) (by decide) k) ?_
          refine Dn.by (U' := T17.setTop (mkF m 121 #[.val (.long q0), .second, .val (.int p1), .val (.int p2), .val (.int b), .val (.long cl), .second, .val (.ref b1), .val .null, .val (.ref b13), .val (.long (bodyL b13 b cl)), .second, .val (.long (-1 : Int64)), .second] [(.long (bodyL b13 b cl))])) (fun _ k => XS.lload X17.here hx rfl (hb hby at_119) rfl k) ?_
          refine Dn.by (U' := T17.setTop (mkF m 123 #[.val (.long q0), .second, .val (.int p1), .val (.int p2), .val (.int b), .val (.long cl), .second, .val (.ref b1), .val .null, .val (.ref b13), .val (.long (bodyL b13 b cl)), .second, .val (.long (-1 : Int64)), .second] [(.long (-1 : Int64)), (.long (bodyL b13 b cl))])) (fun _ k => XS.lload X17.here hx rfl (hb hby at_121) rfl k) ?_
          refine Dn.by (U' := T17.setTop (mkF m 124 #[.val (.long q0), .second, .val (.int p1), .val (.int p2), .val (.int b), .val (.long cl), .second, .val (.ref b1), .val .null, .val (.ref b13), .val (.long (bodyL b13 b cl)), .second, .val (.long (-1 : Int64)), .second] [(.int (lcmpW (bodyL b13 b cl) (-1 : Int64)))])) (fun _ k => XS.lcmp X17.here hx rfl (hb hby at_123) rfl k) ?_
          refine Dn.by (U' := T17.setTop (mkF m 127 #[.val (.long q0), .second, .val (.int p1), .val (.int p2), .val (.int b), .val (.long cl), .second, .val (.ref b1), .val .null, .val (.ref b13), .val (.long (bodyL b13 b cl)), .second, .val (.long (-1 : Int64)), .second] [])) (fun _ k => XS.ifNo X17.here hx rfl (hb hby at_124) rfl ((if0 _ _).trans (teq ((lw_eq _ _).mpr (own_1 _ _ _ c89_18))).2) k) ?_
          refine Dn.by (U' := T17.setTop (mkF m 128 #[.val (.long q0), .second, .val (.int p1), .val (.int p2), .val (.int b), .val (.long cl), .second, .val (.ref b1), .val .null, .val (.ref b13), .val (.long (bodyL b13 b cl)), .second, .val (.long (-1 : Int64)), .second] [(.int (1 : Int32))])) (fun _ k => XS.iconst X17.here hx rfl (hb hby at_127)  k) ?_
          refine Dn.by (U' := T17.setTop (mkF m 132 #[.val (.long q0), .second, .val (.int p1), .val (.int p2), .val (.int b), .val (.long cl), .second, .val (.ref b1), .val .null, .val (.ref b13), .val (.long (bodyL b13 b cl)), .second, .val (.long (-1 : Int64)), .second] [(.int (1 : Int32))])) (fun _ k => XS.goto X17.here hx rfl (pc0 := 128) (pc' := 132) rfl (hb hby at_128) (by decide) (by decide) k) ?_
          refine Dn.out X17 (v := (some (.int (1 : Int32)))) (fun h => by rw [Bd.returns] at h; cases h) (BodyLoose.notSynchronized Bd) (fun _ hr => retN X17 hx (t := .boolean) Bd.returns (by simp) (hb hby at_132) hr) (by decide) (by decide) ?_
          rw [e17]
          exact ⟨rfl, N17⟩
    by_cases c16_20 : q0 < (0 : Int64)
    ·
      refine Dn.by (U' := s₁.setTop (mkF m 19 #[.val (.long q0), .second, .val (.int p1), .val (.int p2), .val (.int b), .unset, .unset, .unset, .unset, .unset, .unset, .unset, .unset, .unset] [])) (fun _ k => XS.ifNo X0.here hx rfl (hb hby at_16) rfl ((if0 _ _).trans (tlt ((lw_lt _ _).mpr c16_20)).2.1) k) ?_
      refine Dn.by (U' := s₁.setTop (mkF m 22 #[.val (.long q0), .second, .val (.int p1), .val (.int p2), .val (.int b), .unset, .unset, .unset, .unset, .unset, .unset, .unset, .unset, .unset] [(.long (-1 : Int64))])) (X0.ldc2Long hx hown (mvT hZ (hw _ (List.mem_of_getElem? (i := 55) rfl))) (g := (mkF m 19 #[.val (.long q0), .second, .val (.int p1), .val (.int p2), .val (.int b), .unset, .unset, .unset, .unset, .unset, .unset, .unset, .unset, .unset] [])) rfl (hb hby at_19)) ?_
      refine Dn.by (U' := s₁.setTop (mkF m 26 #[.val (.long q0), .second, .val (.int p1), .val (.int p2), .val (.int b), .unset, .unset, .unset, .unset, .unset, .unset, .unset, .unset, .unset] [(.long (-1 : Int64))])) (fun _ k => XS.goto X0.here hx rfl (pc0 := 22) (pc' := 26) rfl (hb hby at_22) (by decide) (by decide) k) ?_
      exact J2 _ (Or.inl rfl)
    ·
      refine Dn.by (U' := s₁.setTop (mkF m 25 #[.val (.long q0), .second, .val (.int p1), .val (.int p2), .val (.int b), .unset, .unset, .unset, .unset, .unset, .unset, .unset, .unset, .unset] [])) (fun _ k => XS.ifYes X0.here hx rfl (pc0 := 16) (pc' := 25) rfl (hb hby at_16) rfl ((if0 _ _).trans (flt (fun z => c16_20 ((lw_lt _ _).mp z))).2.1) (by decide) (by decide) k) ?_
      refine Dn.by (U' := s₁.setTop (mkF m 26 #[.val (.long q0), .second, .val (.int p1), .val (.int p2), .val (.int b), .unset, .unset, .unset, .unset, .unset, .unset, .unset, .unset, .unset] [(.long q0)])) (fun _ k => XS.lloadN X0.here hx rfl (hb hby at_25) rfl k) ?_
      exact J2 _ (Or.inr c16_20)
  by_cases c3_21 : (p1 &&& (1 : Int32)) = (0 : Int32)
  ·
    refine Dn.by (U' := s₁.setTop (mkF m 10 #[.val (.long q0), .second, .val (.int p1), .val (.int p2), .unset, .unset, .unset, .unset, .unset, .unset, .unset, .unset, .unset, .unset] [])) (fun _ k => XS.ifYes X0.here hx rfl (pc0 := 3) (pc' := 10) rfl (hb hby at_3) rfl ((if0 _ _).trans (teq c3_21).1) (by decide) (by decide) k) ?_
    refine Dn.by (U' := s₁.setTop (mkF m 11 #[.val (.long q0), .second, .val (.int p1), .val (.int p2), .unset, .unset, .unset, .unset, .unset, .unset, .unset, .unset, .unset, .unset] [(.int (0 : Int32))])) (fun _ k => XS.iconst X0.here hx rfl (hb hby at_10)  k) ?_
    exact J _ (Or.inl rfl)
  ·
    refine Dn.by (U' := s₁.setTop (mkF m 6 #[.val (.long q0), .second, .val (.int p1), .val (.int p2), .unset, .unset, .unset, .unset, .unset, .unset, .unset, .unset, .unset, .unset] [])) (fun _ k => XS.ifNo X0.here hx rfl (hb hby at_3) rfl ((if0 _ _).trans (feq c3_21).1) k) ?_
    refine Dn.by (U' := s₁.setTop (mkF m 7 #[.val (.long q0), .second, .val (.int p1), .val (.int p2), .unset, .unset, .unset, .unset, .unset, .unset, .unset, .unset, .unset, .unset] [(.int (1 : Int32))])) (fun _ k => XS.iconst X0.here hx rfl (hb hby at_6)  k) ?_
    refine Dn.by (U' := s₁.setTop (mkF m 11 #[.val (.long q0), .second, .val (.int p1), .val (.int p2), .unset, .unset, .unset, .unset, .unset, .unset, .unset, .unset, .unset, .unset] [(.int (1 : Int32))])) (fun _ k => XS.goto X0.here hx rfl (pc0 := 7) (pc' := 11) rfl (hb hby at_7) (by decide) (by decide) k) ?_
    exact J _ (Or.inr rfl)
set_option maxRecDepth 65536 in
set_option maxHeartbeats 40000000 in
theorem comes_1 {Post : Tables → Env → Array Value → State → Outcome → State → Prop} (hpost : ∀ tb e args s v u, (limb_1_1.after args s (.returned v) u = true ∧ limb_1_2.after args s (.returned v) u = true ∧ True) → FrameEnd s (.returned v) u (Jvm.fieldLocs frame_1_writes args s ++ Jvm.arrayLocs frame_1_arrays args s ++ Jvm.staticLocs frame_1_statics s) 24 128 → Post tb e args s (.returned v) u) :
    ArmFor flags0 classFile x code maxLocals ret World_1 tables_1 room_1 Calls_1 rest_1 Pre_1 Post := by
  intro l hfl _ _ p e ha hc hk s m args below hf hA hF happ hP
  obtain ⟨hcalls, hrest, hpre⟩ := hP
  obtain ⟨-, -, -, hnamed, -, -, -, hat⟩ := (Spec.applies_iff hf).mp happ
  obtain ⟨hg, hn⟩ := and_e (Cond.before_iff.mp (show (Jvm.Cond.and given_1 narrow_1).before args s = true from hpre))
  obtain ⟨gg1, gg2⟩ := and_e hg
  obtain ⟨gg3, gg4⟩ := and_e gg2
  obtain ⟨gg5, gg6⟩ := and_e gg4
  obtain ⟨w0, w1, w2, rfl⟩ : ∃ w0 w1 w2 : Value, args = #[w0, w1, w2] := by
    have hs : args.size = 3 := by simpa [Cond.value, given_1] using gg1
    obtain ⟨L⟩ := args
    match L, hs with
    | [w0, w1, w2], _ => exact ⟨w0, w1, w2, rfl⟩
  have hw := fun d (hd : d ∈ tables_1) => atoms_spec (ws := Jvm.Cond.code x code maxLocals ret :: tables_1) hat d (List.mem_cons_of_mem _ hd)
  have hfit : Fit s := fun {y c} hc i hi => by
    obtain ⟨ha, rfl⟩ := Array.getElem?_eq_some_iff.mp hc
    have q := List.all_eq_true.mp ((Array.all_eq_true_iff_forall_mem.mp hF) _ (Array.getElem_mem ha)) i (List.mem_range.mpr hi)
    simpa [Array.getElem?_eq_getElem hi] using q
  obtain ⟨hsets, hown0⟩ := atoms_of _ (rest_1_c_eq ▸ (show rest_1_c.before _ s = true from hrest))
  have hr0 := Cond.before_iff.mp hown0
  obtain ⟨i0, ei0⟩ := isL_v gg3
  obtain rfl : w0 = (.long i0) := Option.some.inj ei0
  obtain ⟨i1, ei1⟩ := is_v gg5
  obtain rfl : w1 = (.int i1) := Option.some.inj ei1
  obtain ⟨i2, ei2⟩ := is_v gg6
  obtain rfl : w2 = (.int i2) := Option.some.inj ei2
  obtain ⟨cs, ev_cs⟩ := is_v (Cond.before_iff.mp (hsets _ (List.mem_of_getElem? (i := 1) rfl)))
  have S_cs := Sta.start ev_cs (Or.inl (hsets _ (List.mem_of_getElem? (i := 0) rfl)))
  have hcs : ¬ cs = (0 : Int32) := gotF (Cond.eq_ints ev_cs (Term.int_eval (0))) (not_v (Cond.before_iff.mp (hsets _ (List.mem_of_getElem? (i := 2) rfl))))
  obtain ⟨n, o, h1, h2, h3, _, L, rfl, ⟨rfl, N⟩, hq⟩ := rm0 l s _ hw tables_1 i0 i1 i2 cs s.heap s.heap.size (Nat.le_refl _) (Old.start s) S_cs hcs p e ha hc hk s m _ below hf ((Spec.applies_iff_loose hf).mp happ).1 ⟨rfl, State.Warmed39.refl s, rfl⟩ trivial
  refine ⟨n, _, h1, h2, h3, hpost _ _ _ _ _ _ ⟨Cond.after_iff.mpr rfl, Cond.after_iff.mpr (eq_i res_at (Term.int_eval (1)) rfl), trivial⟩ ⟨hq.1, hq.2.1, (hq.2.2.sift fun y hy => Or.inr (N y hy)).mono (by decide) (by decide)⟩⟩
theorem main_1_1 : Claimed_1_1 := comes_1 fun _ _ _ _ _ _ h hF => ⟨h.1, hF⟩
theorem main_1_2 : Claimed_1_2 := comes_1 fun _ _ _ _ _ _ h hF => ⟨h.2.1, hF⟩
end Jvm.Pilot.@@N@@
namespace Jvm.Pilot.@@N@@
open Jvm Jvm.ClassFile Sem Op Lib Jvm.Free Jvm.Stand Jvm.Pilot.@@N@@.Jvm.D
/-! MADE BY PROGRAM (witnessworld.py) out of the Statement's table words and the real class files: 17 classes; the members and pool entries that the words name. The judged class is class 1, her method 1. -/
namespace start1
open Jvm.ClassFile
def u (s : String) : CpInfo := .utf8 (stringToUtf16 s)
/-- a pool by its gaps: so many unusable entries, then the entry; so many at the end -/
def gap : Nat → List CpInfo → List CpInfo
  | 0, r => r
  | n + 1, r => .unusable :: gap n r
def poolList (es : List (Nat × CpInfo)) (last : Nat) : List CpInfo := es.foldr (fun e r => gap e.1 (e.2 :: r)) (gap last [])
def pool (es : List (Nat × CpInfo)) (last : Nat) : Array CpInfo := ⟨poolList es last⟩
def fileOf (pool : Array CpInfo) (this : Nat) (attrs : Array Attribute := #[]) (ms : Array MethodInfo := #[]) (fl : Nat := 33) (sup : Nat := 0) (ifs : Array Nat := #[]) (fds : Array FieldInfo := #[]) : ClassFile where
  minorVersion := 0
  majorVersion := 65
  constantPool := pool
  accessFlags := fl
  thisClass := this
  superClass := sup
  interfaces := ifs
  fields := fds
  methods := ms
  attributes := attrs
def plain (name : String) (sup : Option ClassId) : Class where
  name := name
  kind := .ordinary
  loader := none
  accessFlags := 33
  super := sup
  interfaces := #[]
  cf := none
  fields := #[]
  methods := #[]
  instanceTypes := #[]
  staticTypes := #[]
  resolved := #[]
  callSites := []
  init := .initialized
  statics := none
  mirror := none

def pool0 : Array CpInfo := pool [(5, u "<init>"), (0, u "()V"), (1, .class_ 10), (1, u "java/lang/Object")] 113

def k0c0 : Code := { maxStack := 0, maxLocals := 1, code := object_method_1_code, exceptionTable := #[], attributes := #[] }
def k0m0 : Method := { name := "<init>", desc := "()V", sig := { parameters := [], returnType := none }, accessFlags := 1, code := some k0c0 }
/-- java/lang/Object -/
def k0 : Class := { plain "java/lang/Object" none with
  accessFlags := 33
  interfaces := #[]
  cf := some (fileOf pool0 8 #[] #[{ accessFlags := 1, nameIndex := 5, descriptorIndex := 6, attributes := #[] }] 33 0 #[] #[])
  fields := #[]
  methods := #[k0m0]
  instanceTypes := #[]
  staticTypes := #[]
  resolved := Array.replicate 124 none
  statics := none }

def pool1 : Array CpInfo := pool [(2, .class_ 4), (1, u "java/lang/Object"), (0, u "<init>"), (0, u "()V"), (0, .long 18446744073709551615), (1, .methodref 10 11), (0, .class_ 12), (0, .nameAndType 13 14), (0, u "java/lang/String"), (0, u "valueOf"), (0, u "(C)Ljava/lang/String;"), (0, .class_ 16), (0, u "formwire/cli/RequestHead"), (0, .methodref 15 18), (0, .nameAndType 5 19), (0, u "(Ljava/lang/String;Ljava/lang/String;JZ)V"), (0, .methodref 15 21), (0, .nameAndType 22 23), (0, u "bodyLength"), (0, u "()J"), (0, .class_ 25), (0, u "formwire/cli/RequestHeadBodyLengthPinLaw"), (2, u "law"), (0, u "(JII)Z")] 3

def k1m0 : Method := { name := "<init>", desc := "()V", sig := { parameters := [], returnType := none }, accessFlags := 2, code := none }
def k1c1 : Code := { maxStack := 7, maxLocals := 14, code := code, exceptionTable := #[], attributes := #[] }
def k1m1 : Method := { name := "law", desc := "(JII)Z", sig := { parameters := [.long, .int, .int], returnType := some .boolean }, accessFlags := 9, code := some k1c1 }
/-- formwire/cli/RequestHeadBodyLengthPinLaw -/
def k1 : Class := { plain "formwire/cli/RequestHeadBodyLengthPinLaw" (some 0) with
  accessFlags := 49
  interfaces := #[]
  cf := some (fileOf pool1 24 #[] #[{ accessFlags := 2, nameIndex := 5, descriptorIndex := 6, attributes := #[] }, { accessFlags := 9, nameIndex := 28, descriptorIndex := 29, attributes := #[] }] 49 2 #[] #[])
  fields := #[]
  methods := #[k1m0, k1m1]
  instanceTypes := #[]
  staticTypes := #[]
  resolved := Array.replicate 33 none
  statics := none }

def pool2 : Array CpInfo := pool [(1, .class_ 2), (0, u "java/io/Serializable"), (0, .class_ 4), (0, u "java/lang/Object")] 2

/-- java/io/Serializable -/
def k2 : Class := { plain "java/io/Serializable" (some 0) with
  accessFlags := 1537
  interfaces := #[]
  cf := some (fileOf pool2 1 #[] #[] 1537 3 #[] #[])
  fields := #[]
  methods := #[]
  instanceTypes := #[]
  staticTypes := #[]
  resolved := Array.replicate 7 none
  statics := none }

def pool3 : Array CpInfo := pool [(1, .class_ 2), (0, u "java/lang/Comparable"), (0, .class_ 4), (0, u "java/lang/Object")] 7

/-- java/lang/Comparable -/
def k3 : Class := { plain "java/lang/Comparable" (some 0) with
  accessFlags := 1537
  interfaces := #[]
  cf := some (fileOf pool3 1 #[] #[] 1537 3 #[] #[])
  fields := #[]
  methods := #[]
  instanceTypes := #[]
  staticTypes := #[]
  resolved := Array.replicate 12 none
  statics := none }

def pool4 : Array CpInfo := pool [(2, .class_ 4), (1, u "java/lang/CharSequence"), (42, .class_ 48), (0, u "java/lang/CharSequence$1CodePointIterator"), (10, .class_ 60), (0, u "java/lang/CharSequence$1CharIterator"), (5, .class_ 67), (0, u "java/lang/Object")] 63

/-- java/lang/CharSequence -/
def k4 : Class := { plain "java/lang/CharSequence" (some 0) with
  accessFlags := 1537
  interfaces := #[]
  cf := some (fileOf pool4 2 #[.nestMembers #[47, 59]] #[] 1537 66 #[] #[])
  fields := #[]
  methods := #[]
  instanceTypes := #[]
  staticTypes := #[]
  resolved := Array.replicate 131 none
  statics := none }

def pool5 : Array CpInfo := pool [(1, .class_ 2), (0, u "java/lang/constant/Constable"), (0, .class_ 4), (0, u "java/lang/Object")] 6

/-- java/lang/constant/Constable -/
def k5 : Class := { plain "java/lang/constant/Constable" (some 0) with
  accessFlags := 1537
  interfaces := #[]
  cf := some (fileOf pool5 1 #[] #[] 1537 3 #[] #[])
  fields := #[]
  methods := #[]
  instanceTypes := #[]
  staticTypes := #[]
  resolved := Array.replicate 11 none
  statics := none }

def pool6 : Array CpInfo := pool [(1, .class_ 2), (0, u "java/lang/constant/ConstantDesc"), (0, .class_ 4), (0, u "java/lang/Object")] 32

/-- java/lang/constant/ConstantDesc -/
def k6 : Class := { plain "java/lang/constant/ConstantDesc" (some 0) with
  accessFlags := 1537
  interfaces := #[]
  cf := some (fileOf pool6 1 #[] #[] 1537 3 #[] #[])
  fields := #[]
  methods := #[]
  instanceTypes := #[]
  staticTypes := #[]
  resolved := Array.replicate 37 none
  statics := none }

def pool7 : Array CpInfo := pool [(1, .methodref 2 3), (0, .class_ 4), (0, .nameAndType 5 6), (0, u "java/lang/Object"), (0, u "<init>"), (0, u "()V"), (2, .fieldref 10 11), (0, .class_ 12), (0, .nameAndType 13 14), (0, u "java/lang/String"), (0, u "value"), (0, u "[B"), (0, .fieldref 10 16), (0, .nameAndType 17 18), (0, u "coder"), (0, u "B"), (2, u "hash"), (0, u "I"), (2, u "hashIsZero"), (0, u "Z"), (11, .fieldref 10 39), (0, .nameAndType 40 26), (0, u "COMPACT_STRINGS"), (12, u "toBytes"), (53, .class_ 109), (1, u "java/lang/StringLatin1"), (99, .methodref 10 210), (0, .nameAndType 5 211), (0, u "([BB)V"), (157, u "(C)Z"), (205, .class_ 576), (0, u "java/lang/CharSequence"), (22, u "CASE_INSENSITIVE_ORDER"), (0, u "Ljava/util/Comparator;"), (181, u "valueOf"), (0, u "(C)Ljava/lang/String;"), (231, .methodref 107 1016), (0, .nameAndType 1017 369), (0, u "canEncode"), (0, .methodref 107 1019), (0, .nameAndType 53 1020), (0, u "(C)[B"), (80, u "serialPersistentFields"), (0, u "[Ljava/io/ObjectStreamField;"), (0, .class_ 1104), (0, u "java/lang/String$CaseInsensitiveComparator"), (1, .class_ 1107), (0, u "java/io/Serializable"), (0, .class_ 1109), (0, u "java/lang/Comparable"), (0, .class_ 1111), (0, u "java/lang/constant/Constable"), (0, .class_ 1113), (0, u "java/lang/constant/ConstantDesc"), (2, u "serialVersionUID"), (0, u "J"), (3, u "REPL"), (0, u "C"), (2, u "LATIN1"), (1, u "UTF16")] 323

def k7m0 : Method := { name := "<init>", desc := "()V", sig := { parameters := [], returnType := none }, accessFlags := 1, code := none }
def k7c1 : Code := { maxStack := 4, maxLocals := 1, code := jdk_42_method_139_code, exceptionTable := #[], attributes := #[] }
def k7m1 : Method := { name := "valueOf", desc := "(C)Ljava/lang/String;", sig := { parameters := [.char], returnType := some (.object "java/lang/String") }, accessFlags := 9, code := some k7c1 }
def k7c2 : Code := { maxStack := 2, maxLocals := 3, code := jdk_42_method_151_code, exceptionTable := #[], attributes := #[] }
def k7m2 : Method := { name := "<init>", desc := "([BB)V", sig := { parameters := [(.array .byte), .byte], returnType := none }, accessFlags := 0, code := some k7c2 }
/-- java/lang/String -/
def k7 : Class := { plain "java/lang/String" (some 0) with
  accessFlags := 49
  interfaces := #[2, 3, 4, 5, 6]
  cf := some (fileOf pool7 10 #[.nestMembers #[1103]] #[{ accessFlags := 1, nameIndex := 5, descriptorIndex := 6, attributes := #[] }, { accessFlags := 9, nameIndex := 782, descriptorIndex := 783, attributes := #[] }, { accessFlags := 0, nameIndex := 5, descriptorIndex := 211, attributes := #[] }] 49 2 #[1106, 1108, 575, 1110, 1112] #[{ accessFlags := 18, nameIndex := 13, descriptorIndex := 14, attributes := #[] }, { accessFlags := 18, nameIndex := 17, descriptorIndex := 18, attributes := #[] }, { accessFlags := 2, nameIndex := 21, descriptorIndex := 22, attributes := #[] }, { accessFlags := 2, nameIndex := 25, descriptorIndex := 26, attributes := #[] }, { accessFlags := 26, nameIndex := 1116, descriptorIndex := 1117, attributes := #[] }, { accessFlags := 24, nameIndex := 40, descriptorIndex := 26, attributes := #[] }, { accessFlags := 26, nameIndex := 1101, descriptorIndex := 1102, attributes := #[] }, { accessFlags := 26, nameIndex := 1121, descriptorIndex := 1122, attributes := #[] }, { accessFlags := 25, nameIndex := 599, descriptorIndex := 600, attributes := #[] }, { accessFlags := 24, nameIndex := 1125, descriptorIndex := 18, attributes := #[] }, { accessFlags := 24, nameIndex := 1127, descriptorIndex := 18, attributes := #[] }])
  fields := #[{ name := "value", type := (.array .byte), accessFlags := 18, slot := 0, constantValue := 0 }, { name := "coder", type := .byte, accessFlags := 18, slot := 1, constantValue := 0 }, { name := "hash", type := .int, accessFlags := 2, slot := 2, constantValue := 0 }, { name := "hashIsZero", type := .boolean, accessFlags := 2, slot := 3, constantValue := 0 }, { name := "serialVersionUID", type := .long, accessFlags := 26, slot := 0, constantValue := 0 }, { name := "COMPACT_STRINGS", type := .boolean, accessFlags := 24, slot := 1, constantValue := 0 }, { name := "serialPersistentFields", type := (.array (.object "java/io/ObjectStreamField")), accessFlags := 26, slot := 2, constantValue := 0 }, { name := "REPL", type := .char, accessFlags := 26, slot := 3, constantValue := 0 }, { name := "CASE_INSENSITIVE_ORDER", type := (.object "java/util/Comparator"), accessFlags := 25, slot := 4, constantValue := 0 }, { name := "LATIN1", type := .byte, accessFlags := 24, slot := 5, constantValue := 0 }, { name := "UTF16", type := .byte, accessFlags := 24, slot := 6, constantValue := 0 }]
  methods := #[k7m0, k7m1, k7m2]
  instanceTypes := #[(.array .byte), .byte, .int, .boolean]
  staticTypes := #[.long, .boolean, (.array (.object "java/io/ObjectStreamField")), .char, (.object "java/util/Comparator"), .byte, .byte]
  resolved := Array.replicate 1451 none
  statics := some 0 }

def pool8 : Array CpInfo := pool [(4, .class_ 6), (1, u "java/lang/Object"), (0, u "<init>"), (0, u "()V"), (5, .class_ 16), (1, u "java/lang/StringLatin1"), (73, u "canEncode"), (14, u "(C)Z"), (15, u "$assertionsDisabled"), (0, u "Z"), (98, .class_ 223), (1, u "java/lang/StringLatin1$LinesSpliterator"), (156, u "toBytes"), (1, u "(C)[B"), (7, .class_ 391), (0, u "java/lang/StringLatin1$CharsSpliterator")] 3

def k8m0 : Method := { name := "<init>", desc := "()V", sig := { parameters := [], returnType := none }, accessFlags := 0, code := none }
def k8c1 : Code := { maxStack := 2, maxLocals := 1, code := jdk_43_method_3_code, exceptionTable := #[], attributes := #[] }
def k8m1 : Method := { name := "canEncode", desc := "(C)Z", sig := { parameters := [.char], returnType := some .boolean }, accessFlags := 9, code := some k8c1 }
def k8c2 : Code := { maxStack := 4, maxLocals := 1, code := jdk_43_method_46_code, exceptionTable := #[], attributes := #[] }
def k8m2 : Method := { name := "toBytes", desc := "(C)[B", sig := { parameters := [.char], returnType := some (.array .byte) }, accessFlags := 9, code := some k8c2 }
/-- java/lang/StringLatin1 -/
def k8 : Class := { plain "java/lang/StringLatin1" (some 0) with
  accessFlags := 48
  interfaces := #[]
  cf := some (fileOf pool8 14 #[.nestMembers #[390, 221]] #[{ accessFlags := 0, nameIndex := 7, descriptorIndex := 8, attributes := #[] }, { accessFlags := 9, nameIndex := 90, descriptorIndex := 105, attributes := #[] }, { accessFlags := 9, nameIndex := 380, descriptorIndex := 382, attributes := #[] }] 48 4 #[] #[{ accessFlags := 4120, nameIndex := 121, descriptorIndex := 122, attributes := #[] }])
  fields := #[{ name := "$assertionsDisabled", type := .boolean, accessFlags := 4120, slot := 0, constantValue := 0 }]
  methods := #[k8m0, k8m1, k8m2]
  instanceTypes := #[]
  staticTypes := #[.boolean]
  resolved := Array.replicate 395 none
  statics := none }

def pool9 : Array CpInfo := pool [(1, .methodref 2 3), (0, .class_ 4), (0, .nameAndType 5 6), (0, u "java/lang/Object"), (0, u "<init>"), (0, u "()V"), (0, .class_ 8), (0, u "java/lang/Record")] 13

def k9c0 : Code := { maxStack := 1, maxLocals := 1, code := jdk_30_method_1_code, exceptionTable := #[], attributes := #[] }
def k9m0 : Method := { name := "<init>", desc := "()V", sig := { parameters := [], returnType := none }, accessFlags := 4, code := some k9c0 }
/-- java/lang/Record -/
def k9 : Class := { plain "java/lang/Record" (some 0) with
  accessFlags := 1057
  interfaces := #[]
  cf := some (fileOf pool9 7 #[] #[{ accessFlags := 4, nameIndex := 5, descriptorIndex := 6, attributes := #[] }] 1057 2 #[] #[])
  fields := #[]
  methods := #[k9m0]
  instanceTypes := #[]
  staticTypes := #[]
  resolved := Array.replicate 22 none
  statics := none }

def pool10 : Array CpInfo := pool [(1, .methodref 2 3), (0, .class_ 4), (0, .nameAndType 5 6), (0, u "java/lang/Record"), (0, u "<init>"), (0, u "()V"), (0, .fieldref 8 9), (0, .class_ 10), (0, .nameAndType 11 12), (0, u "formwire/cli/RequestHead"), (0, u "target"), (0, u "Ljava/lang/String;"), (0, .fieldref 8 14), (0, .nameAndType 15 12), (0, u "contentType"), (0, .fieldref 8 17), (0, .nameAndType 18 19), (0, u "contentLength"), (0, u "J"), (0, .fieldref 8 21), (0, .nameAndType 22 23), (0, u "transferCoded"), (0, u "Z"), (0, .class_ 25), (0, u "formwire/cli/RequestHead$Lines"), (29, .long 18446744073709551615), (56, u "(Ljava/lang/String;Ljava/lang/String;JZ)V"), (17, .class_ 131), (0, u "formwire/cli/RequestHead$1"), (3, .methodref 136 137), (0, .class_ 138), (0, .nameAndType 139 140), (0, u "java/lang/Math"), (0, u "max"), (0, u "(JJ)J"), (27, u "MAX_BYTES"), (0, u "I"), (19, u "bodyLength"), (0, u "()J")] 39

def k10c0 : Code := { maxStack := 3, maxLocals := 6, code := prog_42_method_1_code, exceptionTable := #[], attributes := #[] }
def k10m0 : Method := { name := "<init>", desc := "(Ljava/lang/String;Ljava/lang/String;JZ)V", sig := { parameters := [(.object "java/lang/String"), (.object "java/lang/String"), .long, .boolean], returnType := none }, accessFlags := 0, code := some k10c0 }
def k10c1 : Code := { maxStack := 4, maxLocals := 1, code := prog_42_method_5_code, exceptionTable := #[], attributes := #[] }
def k10m1 : Method := { name := "bodyLength", desc := "()J", sig := { parameters := [], returnType := some .long }, accessFlags := 0, code := some k10c1 }
/-- formwire/cli/RequestHead -/
def k10 : Class := { plain "formwire/cli/RequestHead" (some 9) with
  accessFlags := 48
  interfaces := #[]
  cf := some (fileOf pool10 8 #[.nestMembers #[24, 130]] #[{ accessFlags := 0, nameIndex := 5, descriptorIndex := 112, attributes := #[] }, { accessFlags := 0, nameIndex := 189, descriptorIndex := 190, attributes := #[] }] 48 2 #[] #[{ accessFlags := 18, nameIndex := 11, descriptorIndex := 12, attributes := #[] }, { accessFlags := 18, nameIndex := 15, descriptorIndex := 12, attributes := #[] }, { accessFlags := 18, nameIndex := 18, descriptorIndex := 19, attributes := #[] }, { accessFlags := 18, nameIndex := 22, descriptorIndex := 23, attributes := #[] }, { accessFlags := 24, nameIndex := 168, descriptorIndex := 169, attributes := #[] }])
  fields := #[{ name := "target", type := (.object "java/lang/String"), accessFlags := 18, slot := 0, constantValue := 0 }, { name := "contentType", type := (.object "java/lang/String"), accessFlags := 18, slot := 1, constantValue := 0 }, { name := "contentLength", type := .long, accessFlags := 18, slot := 2, constantValue := 0 }, { name := "transferCoded", type := .boolean, accessFlags := 18, slot := 3, constantValue := 0 }, { name := "MAX_BYTES", type := .int, accessFlags := 24, slot := 0, constantValue := 0 }]
  methods := #[k10m0, k10m1]
  instanceTypes := #[(.object "java/lang/String"), (.object "java/lang/String"), .long, .boolean]
  staticTypes := #[.int]
  resolved := Array.replicate 230 none
  statics := none }

def pool11 : Array CpInfo := pool [(1, .class_ 2), (0, u "java/lang/Math"), (1, .class_ 6), (1, u "java/lang/Object"), (0, u "<init>"), (0, u "()V"), (89, .class_ 100), (1, u "java/lang/Math$RandomNumberGeneratorHolder"), (20, u "(JJ)J"), (50, u "negativeZeroFloatBits"), (0, u "J"), (2, u "negativeZeroDoubleBits"), (21, u "max"), (46, u "$assertionsDisabled"), (0, u "Z"), (91, u "twoToTheDoubleScaleDown"), (0, u "D"), (4, u "twoToTheDoubleScaleUp"), (9, u "E"), (3, u "PI"), (2, u "TAU"), (2, u "DEGREES_TO_RADIANS"), (0, u "RADIANS_TO_DEGREES")] 94

def k11m0 : Method := { name := "<init>", desc := "()V", sig := { parameters := [], returnType := none }, accessFlags := 2, code := none }
def k11c1 : Code := { maxStack := 4, maxLocals := 4, code := jdk_29_method_66_code, exceptionTable := #[], attributes := #[] }
def k11m1 : Method := { name := "max", desc := "(JJ)J", sig := { parameters := [.long, .long], returnType := some .long }, accessFlags := 9, code := some k11c1 }
/-- java/lang/Math -/
def k11 : Class := { plain "java/lang/Math" (some 0) with
  accessFlags := 49
  interfaces := #[]
  cf := some (fileOf pool11 1 #[.nestMembers #[98]] #[{ accessFlags := 2, nameIndex := 7, descriptorIndex := 8, attributes := #[] }, { accessFlags := 9, nameIndex := 198, descriptorIndex := 121, attributes := #[] }] 49 4 #[] #[{ accessFlags := 25, nameIndex := 354, descriptorIndex := 339, attributes := #[] }, { accessFlags := 25, nameIndex := 358, descriptorIndex := 339, attributes := #[] }, { accessFlags := 25, nameIndex := 361, descriptorIndex := 339, attributes := #[] }, { accessFlags := 26, nameIndex := 364, descriptorIndex := 339, attributes := #[] }, { accessFlags := 26, nameIndex := 365, descriptorIndex := 339, attributes := #[] }, { accessFlags := 26, nameIndex := 172, descriptorIndex := 173, attributes := #[] }, { accessFlags := 26, nameIndex := 176, descriptorIndex := 173, attributes := #[] }, { accessFlags := 8, nameIndex := 344, descriptorIndex := 339, attributes := #[] }, { accessFlags := 8, nameIndex := 338, descriptorIndex := 339, attributes := #[] }, { accessFlags := 4120, nameIndex := 245, descriptorIndex := 246, attributes := #[] }])
  fields := #[{ name := "E", type := .double, accessFlags := 25, slot := 0, constantValue := 0 }, { name := "PI", type := .double, accessFlags := 25, slot := 1, constantValue := 0 }, { name := "TAU", type := .double, accessFlags := 25, slot := 2, constantValue := 0 }, { name := "DEGREES_TO_RADIANS", type := .double, accessFlags := 26, slot := 3, constantValue := 0 }, { name := "RADIANS_TO_DEGREES", type := .double, accessFlags := 26, slot := 4, constantValue := 0 }, { name := "negativeZeroFloatBits", type := .long, accessFlags := 26, slot := 5, constantValue := 0 }, { name := "negativeZeroDoubleBits", type := .long, accessFlags := 26, slot := 6, constantValue := 0 }, { name := "twoToTheDoubleScaleUp", type := .double, accessFlags := 8, slot := 7, constantValue := 0 }, { name := "twoToTheDoubleScaleDown", type := .double, accessFlags := 8, slot := 8, constantValue := 0 }, { name := "$assertionsDisabled", type := .boolean, accessFlags := 4120, slot := 9, constantValue := 0 }]
  methods := #[k11m0, k11m1]
  instanceTypes := #[]
  staticTypes := #[.double, .double, .double, .double, .double, .long, .long, .double, .double, .boolean]
  resolved := Array.replicate 460 none
  statics := none }

def pool12 : Array CpInfo := pool [(2, .class_ 4), (1, u "java/lang/Object"), (0, u "<init>"), (0, u "()V"), (17, .class_ 26), (1, u "jdk/internal/util/Preconditions"), (28, .class_ 56), (0, u "jdk/internal/util/Preconditions$4"), (57, .class_ 115), (0, u "jdk/internal/util/Preconditions$1"), (7, u "SIOOBE_FORMATTER"), (0, u "Ljava/util/function/BiFunction;"), (0, .class_ 126), (0, u "jdk/internal/util/Preconditions$2"), (3, u "AIOOBE_FORMATTER"), (0, .class_ 132), (0, u "jdk/internal/util/Preconditions$3"), (3, u "IOOBE_FORMATTER")] 57

def k12m0 : Method := { name := "<init>", desc := "()V", sig := { parameters := [], returnType := none }, accessFlags := 1, code := none }
/-- jdk/internal/util/Preconditions -/
def k12 : Class := { plain "jdk/internal/util/Preconditions" (some 0) with
  accessFlags := 33
  interfaces := #[]
  cf := some (fileOf pool12 24 #[.nestMembers #[55, 131, 125, 114]] #[{ accessFlags := 1, nameIndex := 5, descriptorIndex := 6, attributes := #[] }] 33 2 #[] #[{ accessFlags := 25, nameIndex := 123, descriptorIndex := 124, attributes := #[] }, { accessFlags := 25, nameIndex := 130, descriptorIndex := 124, attributes := #[] }, { accessFlags := 25, nameIndex := 136, descriptorIndex := 124, attributes := #[] }])
  fields := #[{ name := "SIOOBE_FORMATTER", type := (.object "java/util/function/BiFunction"), accessFlags := 25, slot := 0, constantValue := 0 }, { name := "AIOOBE_FORMATTER", type := (.object "java/util/function/BiFunction"), accessFlags := 25, slot := 1, constantValue := 0 }, { name := "IOOBE_FORMATTER", type := (.object "java/util/function/BiFunction"), accessFlags := 25, slot := 2, constantValue := 0 }]
  methods := #[k12m0]
  instanceTypes := #[]
  staticTypes := #[(.object "java/util/function/BiFunction"), (.object "java/util/function/BiFunction"), (.object "java/util/function/BiFunction")]
  resolved := Array.replicate 194 none
  statics := some 1 }

def pool13 : Array CpInfo := pool [(9, u "<init>"), (6, .class_ 18), (1, u "java/lang/Object"), (0, u "()V"), (1, .class_ 23), (1, u "jdk/internal/util/ArraysSupport"), (0, u "LOG2_ARRAY_LONG_INDEX_SCALE"), (0, u "I"), (2, u "U"), (0, u "Ljdk/internal/misc/Unsafe;"), (8, u "BIG_ENDIAN"), (0, u "Z"), (8, u "LOG2_BYTE_BIT_SIZE"), (4, u "LOG2_ARRAY_INT_INDEX_SCALE"), (54, u "JLA"), (0, u "Ljdk/internal/access/JavaLangAccess;"), (11, u "LOG2_ARRAY_BOOLEAN_INDEX_SCALE"), (9, u "LOG2_ARRAY_BYTE_INDEX_SCALE"), (5, u "LOG2_ARRAY_CHAR_INDEX_SCALE"), (5, u "LOG2_ARRAY_SHORT_INDEX_SCALE"), (18, u "LOG2_ARRAY_FLOAT_INDEX_SCALE"), (24, u "LOG2_ARRAY_DOUBLE_INDEX_SCALE"), (89, u "T_BOOLEAN"), (2, u "T_CHAR"), (1, u "T_FLOAT"), (1, u "T_DOUBLE"), (1, u "T_BYTE"), (1, u "T_SHORT"), (1, u "T_INT"), (1, u "T_LONG"), (1, u "SOFT_MAX_ARRAY_LENGTH")] 83

def k13m0 : Method := { name := "<init>", desc := "()V", sig := { parameters := [], returnType := none }, accessFlags := 2, code := none }
/-- jdk/internal/util/ArraysSupport -/
def k13 : Class := { plain "jdk/internal/util/ArraysSupport" (some 0) with
  accessFlags := 33
  interfaces := #[]
  cf := some (fileOf pool13 21 #[] #[{ accessFlags := 2, nameIndex := 9, descriptorIndex := 19, attributes := #[] }] 33 16 #[] #[{ accessFlags := 24, nameIndex := 28, descriptorIndex := 29, attributes := #[] }, { accessFlags := 26, nameIndex := 38, descriptorIndex := 39, attributes := #[] }, { accessFlags := 25, nameIndex := 121, descriptorIndex := 25, attributes := #[] }, { accessFlags := 25, nameIndex := 131, descriptorIndex := 25, attributes := #[] }, { accessFlags := 25, nameIndex := 137, descriptorIndex := 25, attributes := #[] }, { accessFlags := 25, nameIndex := 143, descriptorIndex := 25, attributes := #[] }, { accessFlags := 25, nameIndex := 53, descriptorIndex := 25, attributes := #[] }, { accessFlags := 25, nameIndex := 24, descriptorIndex := 25, attributes := #[] }, { accessFlags := 25, nameIndex := 162, descriptorIndex := 25, attributes := #[] }, { accessFlags := 25, nameIndex := 187, descriptorIndex := 25, attributes := #[] }, { accessFlags := 26, nameIndex := 48, descriptorIndex := 25, attributes := #[] }, { accessFlags := 25, nameIndex := 277, descriptorIndex := 25, attributes := #[] }, { accessFlags := 25, nameIndex := 280, descriptorIndex := 25, attributes := #[] }, { accessFlags := 25, nameIndex := 282, descriptorIndex := 25, attributes := #[] }, { accessFlags := 25, nameIndex := 284, descriptorIndex := 25, attributes := #[] }, { accessFlags := 25, nameIndex := 286, descriptorIndex := 25, attributes := #[] }, { accessFlags := 25, nameIndex := 288, descriptorIndex := 25, attributes := #[] }, { accessFlags := 25, nameIndex := 290, descriptorIndex := 25, attributes := #[] }, { accessFlags := 25, nameIndex := 292, descriptorIndex := 25, attributes := #[] }, { accessFlags := 26, nameIndex := 108, descriptorIndex := 109, attributes := #[] }, { accessFlags := 25, nameIndex := 294, descriptorIndex := 25, attributes := #[] }])
  fields := #[{ name := "U", type := (.object "jdk/internal/misc/Unsafe"), accessFlags := 24, slot := 0, constantValue := 0 }, { name := "BIG_ENDIAN", type := .boolean, accessFlags := 26, slot := 1, constantValue := 0 }, { name := "LOG2_ARRAY_BOOLEAN_INDEX_SCALE", type := .int, accessFlags := 25, slot := 2, constantValue := 0 }, { name := "LOG2_ARRAY_BYTE_INDEX_SCALE", type := .int, accessFlags := 25, slot := 3, constantValue := 0 }, { name := "LOG2_ARRAY_CHAR_INDEX_SCALE", type := .int, accessFlags := 25, slot := 4, constantValue := 0 }, { name := "LOG2_ARRAY_SHORT_INDEX_SCALE", type := .int, accessFlags := 25, slot := 5, constantValue := 0 }, { name := "LOG2_ARRAY_INT_INDEX_SCALE", type := .int, accessFlags := 25, slot := 6, constantValue := 0 }, { name := "LOG2_ARRAY_LONG_INDEX_SCALE", type := .int, accessFlags := 25, slot := 7, constantValue := 0 }, { name := "LOG2_ARRAY_FLOAT_INDEX_SCALE", type := .int, accessFlags := 25, slot := 8, constantValue := 0 }, { name := "LOG2_ARRAY_DOUBLE_INDEX_SCALE", type := .int, accessFlags := 25, slot := 9, constantValue := 0 }, { name := "LOG2_BYTE_BIT_SIZE", type := .int, accessFlags := 26, slot := 10, constantValue := 0 }, { name := "T_BOOLEAN", type := .int, accessFlags := 25, slot := 11, constantValue := 0 }, { name := "T_CHAR", type := .int, accessFlags := 25, slot := 12, constantValue := 0 }, { name := "T_FLOAT", type := .int, accessFlags := 25, slot := 13, constantValue := 0 }, { name := "T_DOUBLE", type := .int, accessFlags := 25, slot := 14, constantValue := 0 }, { name := "T_BYTE", type := .int, accessFlags := 25, slot := 15, constantValue := 0 }, { name := "T_SHORT", type := .int, accessFlags := 25, slot := 16, constantValue := 0 }, { name := "T_INT", type := .int, accessFlags := 25, slot := 17, constantValue := 0 }, { name := "T_LONG", type := .int, accessFlags := 25, slot := 18, constantValue := 0 }, { name := "JLA", type := (.object "jdk/internal/access/JavaLangAccess"), accessFlags := 26, slot := 19, constantValue := 0 }, { name := "SOFT_MAX_ARRAY_LENGTH", type := .int, accessFlags := 25, slot := 20, constantValue := 0 }]
  methods := #[k13m0]
  instanceTypes := #[]
  staticTypes := #[(.object "jdk/internal/misc/Unsafe"), .boolean, .int, .int, .int, .int, .int, .int, .int, .int, .int, .int, .int, .int, .int, .int, .int, .int, .int, (.object "jdk/internal/access/JavaLangAccess"), .int]
  resolved := Array.replicate 378 none
  statics := none }

def pool14 : Array CpInfo := pool [(1, u "java/lang/Cloneable"), (0, .class_ 1), (0, u "java/lang/Object"), (0, .class_ 3)] 3

/-- java/lang/Cloneable -/
def k14 : Class := { plain "java/lang/Cloneable" (some 0) with
  accessFlags := 1537
  interfaces := #[]
  cf := some (fileOf pool14 2 #[] #[] 1537 4 #[] #[])
  fields := #[]
  methods := #[]
  instanceTypes := #[]
  staticTypes := #[]
  resolved := Array.replicate 8 none
  statics := none }

/-- the primitive byte -/
def k15 : Class := { plain "byte" none with kind := .primitive 'B', accessFlags := 0x411 }
/-- [B -/
def k16 : Class := { plain "[B" (some 0) with kind := .array 15 .byte, interfaces := #[14, 2], accessFlags := 1041 }

def heap : Heap := #[{ cls := 7, slots := #[.long 0, .int 1, .null, .int 0, .null, .int 0, .int 0], vm := .statics 7 },
  { cls := 12, slots := #[.null, .null, .null], vm := .statics 12 }]
def classes : Array Class := #[k0, k1, k2, k3, k4, k5, k6, k7, k8, k9, k10, k11, k12, k13, k14, k15, k16]
def interned : List (Array UInt16 × Addr) := []
def slotsUsed : Nat := 10
def theMethod : MethodId := ⟨1, 1⟩
def args0 : Array Value := #[.long 5, .int 6, .int 7]
def aboutOver (below : List Frame) : State where
  vm := { classes := classes, interned := interned.toArray }
  heap := heap
  slotsUsed := slotsUsed
  threads := #[{ frames := .invoking theMethod args0 :: below }]
def below0 : List Frame := [.native { method := ⟨0, 0⟩, args := #[] }]
def about1 : State := aboutOver below0
def p0 : Program := .bare "" "" ""
def e0 : Env := launch0.env 0 0 0
theorem w_frames : about1.frames = Frame.invoking theMethod args0 :: below0 := rfl
set_option maxRecDepth 65536 in
theorem w_args : argsFit about1.vm theMethod args0 = true := by decide +kernel
set_option maxRecDepth 65536 in
theorem w_heap : heapFits about1 = true := by decide +kernel
set_option maxRecDepth 65536 in
theorem w_runnable : about1.curStatus? = some .runnable := by decide +kernel
set_option maxRecDepth 65536 in
theorem w_alone : about1.alone = true := by decide +kernel
set_option maxRecDepth 65536 in
theorem w_named : about1.methodNamed? x = some theMethod := by decide +kernel
set_option maxRecDepth 65536 in
theorem w_hears : about1.hears theMethod below0 = true := by decide +kernel
set_option maxRecDepth 65536 in
theorem w_ripe : about1.ripe theMethod args0 below0 = true := by decide +kernel
theorem w_running : about1.status = .running := rfl
set_option maxRecDepth 65536 in
theorem w_room : about1.hasRoom e0.platform room_1 = true :=
  launch0.hasRoom_least _ room_1 (by decide +kernel) (by decide +kernel) (by decide +kernel) (by decide +kernel) (by decide +kernel) (by decide +kernel)
theorem allAtoms_all (ts : List Jvm.Cond) (a : Array Jvm.Value) (st : Jvm.State) : (allAtoms ts).before a st = ts.all (fun c => c.before a st) := by
  induction ts with
  | nil => rfl
  | cons c t ih =>
    show (Jvm.Cond.and c (allAtoms t)).before a st = _
    rw [Jvm.Cond.before_and, ih, List.all_cons]
def words1 : List Jvm.Cond := Jvm.Cond.code x code maxLocals ret :: tables_1
/-- a 'code' word, met by the world's own term for the bytes: nothing is compared byte by byte -/
theorem code_word {y : MethodName} {bytes : ByteArray} {mx : Nat} {rt : Option FieldType} {a : Array Value} {s : State} {m : MethodId} {meth : Method} {c : Code} (h1 : s.methodNamed? y = some m) (h2 : s.vm.method? m = some meth) (h3 : meth.code = some c) (h4 : c.code = bytes)
    (h5 : (c.maxLocals == mx && c.exceptionTable.isEmpty && decide (c.maxStack ≤ mostOperands) && decide (meth.sig.returnType = rt) && !meth.locks && decide (parseMethodDescriptor y.desc = some meth.sig)) = true) : (Jvm.Cond.code y bytes mx rt).before a s = true := by
  simp only [Bool.and_eq_true, beq_iff_eq, Bool.not_eq_true', decide_eq_true_eq] at h5
  obtain ⟨⟨⟨⟨⟨g1, g2⟩, g3⟩, g4⟩, g5⟩, g6⟩ := h5
  simp [Cond.before, Cond.holds, Cond.value, h1, h2, h3, h4, g1, g2, g3, g4, g5, g6]
def isCode : Jvm.Cond → Bool
  | .code _ _ _ _ => true
  | _ => false
theorem all_split {L : List Jvm.Cond} {P : Jvm.Cond → Bool} (h1 : L.all (fun c => isCode c || P c) = true) (h2 : ∀ c ∈ L.filter isCode, P c = true) : L.all P = true := by
  refine List.all_eq_true.mpr fun c hc => ?_
  have h := List.all_eq_true.mp h1 c hc
  rcases Bool.eq_false_or_eq_true (isCode c) with hi | hi
  · exact h2 c (List.mem_filter.mpr ⟨hc, hi⟩)
  · simpa [hi] using h
set_option maxRecDepth 65536 in
theorem w_c0 : (Jvm.Cond.code x code maxLocals ret).before args0 about1 = true := code_word (m := ⟨1, 1⟩) (meth := k1m1) (c := k1c1) (by decide +kernel) rfl rfl rfl (by decide +kernel)
set_option maxRecDepth 65536 in
theorem w_c1 : (Jvm.Cond.code ({ cls := "java/lang/String", name := "valueOf", desc := "(C)Ljava/lang/String;" } : Jvm.MethodName) jdk_42_method_139_code (1 : Nat) (Option.some (Jvm.ClassFile.FieldType.object "java/lang/String"))).before args0 about1 = true := code_word (m := ⟨7, 1⟩) (meth := k7m1) (c := k7c1) (by decide +kernel) rfl rfl rfl (by decide +kernel)
set_option maxRecDepth 65536 in
theorem w_c2 : (Jvm.Cond.code ({ cls := "java/lang/StringLatin1", name := "canEncode", desc := "(C)Z" } : Jvm.MethodName) jdk_43_method_3_code (1 : Nat) (Option.some Jvm.ClassFile.FieldType.boolean)).before args0 about1 = true := code_word (m := ⟨8, 1⟩) (meth := k8m1) (c := k8c1) (by decide +kernel) rfl rfl rfl (by decide +kernel)
set_option maxRecDepth 65536 in
theorem w_c3 : (Jvm.Cond.code ({ cls := "java/lang/StringLatin1", name := "toBytes", desc := "(C)[B" } : Jvm.MethodName) jdk_43_method_46_code (1 : Nat) (Option.some (Jvm.ClassFile.FieldType.array Jvm.ClassFile.FieldType.byte))).before args0 about1 = true := code_word (m := ⟨8, 2⟩) (meth := k8m2) (c := k8c2) (by decide +kernel) rfl rfl rfl (by decide +kernel)
set_option maxRecDepth 65536 in
theorem w_c4 : (Jvm.Cond.code ({ cls := "java/lang/String", name := "<init>", desc := "([BB)V" } : Jvm.MethodName) jdk_42_method_151_code (3 : Nat) (Option.none : Option Jvm.ClassFile.FieldType)).before args0 about1 = true := code_word (m := ⟨7, 2⟩) (meth := k7m2) (c := k7c2) (by decide +kernel) rfl rfl rfl (by decide +kernel)
set_option maxRecDepth 65536 in
theorem w_c5 : (Jvm.Cond.code ({ cls := "java/lang/Object", name := "<init>", desc := "()V" } : Jvm.MethodName) object_method_1_code (1 : Nat) (Option.none : Option Jvm.ClassFile.FieldType)).before args0 about1 = true := code_word (m := ⟨0, 0⟩) (meth := k0m0) (c := k0c0) (by decide +kernel) rfl rfl rfl (by decide +kernel)
set_option maxRecDepth 65536 in
theorem w_c6 : (Jvm.Cond.code ({ cls := "formwire/cli/RequestHead", name := "<init>", desc := "(Ljava/lang/String;Ljava/lang/String;JZ)V" } : Jvm.MethodName) prog_42_method_1_code (6 : Nat) (Option.none : Option Jvm.ClassFile.FieldType)).before args0 about1 = true := code_word (m := ⟨10, 0⟩) (meth := k10m0) (c := k10c0) (by decide +kernel) rfl rfl rfl (by decide +kernel)
set_option maxRecDepth 65536 in
theorem w_c7 : (Jvm.Cond.code ({ cls := "java/lang/Record", name := "<init>", desc := "()V" } : Jvm.MethodName) jdk_30_method_1_code (1 : Nat) (Option.none : Option Jvm.ClassFile.FieldType)).before args0 about1 = true := code_word (m := ⟨9, 0⟩) (meth := k9m0) (c := k9c0) (by decide +kernel) rfl rfl rfl (by decide +kernel)
set_option maxRecDepth 65536 in
theorem w_c8 : (Jvm.Cond.code ({ cls := "formwire/cli/RequestHead", name := "bodyLength", desc := "()J" } : Jvm.MethodName) prog_42_method_5_code (1 : Nat) (Option.some Jvm.ClassFile.FieldType.long)).before args0 about1 = true := code_word (m := ⟨10, 1⟩) (meth := k10m1) (c := k10c1) (by decide +kernel) rfl rfl rfl (by decide +kernel)
set_option maxRecDepth 65536 in
theorem w_c9 : (Jvm.Cond.code ({ cls := "java/lang/Math", name := "max", desc := "(JJ)J" } : Jvm.MethodName) jdk_29_method_66_code (4 : Nat) (Option.some Jvm.ClassFile.FieldType.long)).before args0 about1 = true := code_word (m := ⟨11, 1⟩) (meth := k11m1) (c := k11c1) (by decide +kernel) rfl rfl rfl (by decide +kernel)
def codes1 : List Jvm.Cond := [Jvm.Cond.code x code maxLocals ret, Jvm.Cond.code ({ cls := "java/lang/String", name := "valueOf", desc := "(C)Ljava/lang/String;" } : Jvm.MethodName) jdk_42_method_139_code (1 : Nat) (Option.some (Jvm.ClassFile.FieldType.object "java/lang/String")), Jvm.Cond.code ({ cls := "java/lang/StringLatin1", name := "canEncode", desc := "(C)Z" } : Jvm.MethodName) jdk_43_method_3_code (1 : Nat) (Option.some Jvm.ClassFile.FieldType.boolean), Jvm.Cond.code ({ cls := "java/lang/StringLatin1", name := "toBytes", desc := "(C)[B" } : Jvm.MethodName) jdk_43_method_46_code (1 : Nat) (Option.some (Jvm.ClassFile.FieldType.array Jvm.ClassFile.FieldType.byte)), Jvm.Cond.code ({ cls := "java/lang/String", name := "<init>", desc := "([BB)V" } : Jvm.MethodName) jdk_42_method_151_code (3 : Nat) (Option.none : Option Jvm.ClassFile.FieldType), Jvm.Cond.code ({ cls := "java/lang/Object", name := "<init>", desc := "()V" } : Jvm.MethodName) object_method_1_code (1 : Nat) (Option.none : Option Jvm.ClassFile.FieldType), Jvm.Cond.code ({ cls := "formwire/cli/RequestHead", name := "<init>", desc := "(Ljava/lang/String;Ljava/lang/String;JZ)V" } : Jvm.MethodName) prog_42_method_1_code (6 : Nat) (Option.none : Option Jvm.ClassFile.FieldType), Jvm.Cond.code ({ cls := "java/lang/Record", name := "<init>", desc := "()V" } : Jvm.MethodName) jdk_30_method_1_code (1 : Nat) (Option.none : Option Jvm.ClassFile.FieldType), Jvm.Cond.code ({ cls := "formwire/cli/RequestHead", name := "bodyLength", desc := "()J" } : Jvm.MethodName) prog_42_method_5_code (1 : Nat) (Option.some Jvm.ClassFile.FieldType.long), Jvm.Cond.code ({ cls := "java/lang/Math", name := "max", desc := "(JJ)J" } : Jvm.MethodName) jdk_29_method_66_code (4 : Nat) (Option.some Jvm.ClassFile.FieldType.long)]
set_option maxRecDepth 65536 in
theorem codes_eq : words1.filter isCode = codes1 := rfl
theorem w_codes : ∀ c ∈ words1.filter isCode, c.before args0 about1 = true := by
  rw [codes_eq]
  intro c hc
  simp only [codes1, List.mem_cons, List.not_mem_nil, or_false] at hc
  rcases hc with rfl | rfl | rfl | rfl | rfl | rfl | rfl | rfl | rfl | rfl
  · exact w_c0
  · exact w_c1
  · exact w_c2
  · exact w_c3
  · exact w_c4
  · exact w_c5
  · exact w_c6
  · exact w_c7
  · exact w_c8
  · exact w_c9
set_option maxRecDepth 65536 in
theorem w_t1 : (words1.take 24).all (fun c => isCode c || c.before args0 about1) = true := by decide +kernel
set_option maxRecDepth 65536 in
theorem w_t2 : ((words1.drop 24).take 24).all (fun c => isCode c || c.before args0 about1) = true := by decide +kernel
set_option maxRecDepth 65536 in
theorem w_t3 : ((words1.drop 24).drop 24).all (fun c => isCode c || c.before args0 about1) = true := by decide +kernel
theorem w_tables : (allAtoms (Jvm.Cond.code x code maxLocals ret :: tables_1)).before args0 about1 = true := by
  rw [allAtoms_all]
  show words1.all (fun c => c.before args0 about1) = true
  refine all_split ?_ w_codes
  rw [← List.take_append_drop 24 words1, List.all_append, w_t1, ← List.take_append_drop 24 (words1.drop 24), List.all_append, w_t2, w_t3]
  rfl
set_option maxRecDepth 65536 in
theorem w_rest : rest_1_c.before args0 about1 = true := by decide +kernel
set_option maxRecDepth 65536 in
theorem w_case : (Jvm.Cond.and given_1 narrow_1).before args0 about1 = true := by decide +kernel
theorem w_applies : (headSpec (Jvm.Cond.code x code maxLocals ret :: tables_1) room_1).applies x e0.platform about1 = true :=
  (Spec.applies_iff w_frames).mpr ⟨w_running, w_runnable, w_alone, w_named, w_hears, w_ripe, w_room, w_tables⟩
theorem atStart : AtStart classFile x code maxLocals ret World_1 tables_1 room_1 Calls_1 rest_1 Pre_1 launch0 p0 e0 about1 theMethod args0 below0 :=
  ⟨lists_1, trivial, launch0.admits_env _ _ _, launch0.least_env, fairChoices_fair.cas, fairChoices_fair.clock, w_frames, w_args, w_heap, w_applies, trivial, w_rest, w_case⟩
end start1
theorem witness_1 : WitnessClaimed_1 := ⟨start1.p0, start1.e0, start1.about1, start1.theMethod, start1.args0, start1.below0, start1.atStart⟩
end Jvm.Pilot.@@N@@
