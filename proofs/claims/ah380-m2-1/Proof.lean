import JvmDerived
import JvmDerived.Pilot.@@N@@Statement
import JvmDerived.Pilot.@@N@@Code
set_option linter.unusedVariables false
set_option linter.unusedSimpArgs false
namespace Jvm.Pilot.@@N@@
open Jvm Jvm.ClassFile Sem Op Lib Jvm.Free Jvm.Stand Jvm.LawKit Jvm.RoadKit Bundle Jvm.Pilot.@@N@@.Jvm.D
/-- from the state U the run comes to the method's end, where Q holds of what it returns, of the heap and of the places written -/
def Dn (p : Program) (e : Env) (below : List Frame) (s : State) (k n : Nat) (Q : Option Value → Heap → List Loc → Prop) (U : State) : Prop :=
  ∃ t o, Steps p.tables e below U t ∧ t.status = .running ∧ Ended t below o ∧ ∃ v L, o = .returned v ∧ Q v t.heap L ∧ FrameEnd s o t L k n
theorem Dn.by {p : Program} {e : Env} {below : List Frame} {s : State} {k n : Nat} {Q : Option Value → Heap → List Loc → Prop} {U U' : State} (st : ∀ t, Steps p.tables e below U' t → Steps p.tables e below U t) (h : Dn p e below s k n Q U') : Dn p e below s k n Q U := by
  obtain ⟨t, o, h1, h2⟩ := h
  exact ⟨t, o, st t h1, h2⟩
theorem Dn.out {p : Program} {l : Launch} {e : Env} {R : Room} {s : State} {m : MethodId} {args : Array Value} {below : List Frame} {meth : Method} {c : Code} {T : State} {locs : List Loc} {cells slots k n : Nat} {Q : Option Value → Heap → List Loc → Prop} {U : State} (X : Stand p l e R s m args below meth c T locs cells slots) {v : Option Value} (hv : meth.sig.returnType = none → v = none) (hlk : meth.locks = false)
    (st : ∀ fs, (∀ (f : JFrame) (acts : List Action), f.method = m → f.locked = none → f.entered = [] → (doReturn e (T.setTop f) acts v).1 = T.setFrames fs) → Steps p.tables e below U (T.setFrames fs)) (hk : cells ≤ k) (hn : slots ≤ n) (hQ : Q v T.heap locs) : Dn p e below s k n Q U := by
  obtain ⟨fs, hr, hrun, hended, hW, hsame⟩ := X.leave (v := v) hv hlk
  exact ⟨_, _, st fs hr, hrun, hended, v, locs, rfl, hQ, ⟨_, rfl⟩, hW, hsame.mono hk hn⟩
theorem pn0 : plainName "com/example/osprey/osprey/transform/Repertoire" = true := by first | (simp [plainName, overriddenIn]; done) | decide +kernel
theorem pn1 : plainName "com/example/osprey/osprey/transform/RepertoireHoldsPinLaw" = true := by first | (simp [plainName, overriddenIn]; done) | decide +kernel
theorem pd0 : parseMethodDescriptor "(I)Z" = some ⟨[.int], some .boolean⟩ := by decide +kernel
theorem pd1 : parseMethodDescriptor "(II)Z" = some ⟨[.int, .int], some .boolean⟩ := by decide +kernel
theorem d1_0 : decode prog_103_method_6_code 0 = .ok (.iload_n 1, 1) := by decide +kernel
theorem d1_1 : decode prog_103_method_6_code 1 = .ok (.bipush 9, 2) := by decide +kernel
theorem d1_3 : decode prog_103_method_6_code 3 = .ok (.if_icmp .eq 51, 3) := by decide +kernel
theorem d1_6 : decode prog_103_method_6_code 6 = .ok (.iload_n 1, 1) := by decide +kernel
theorem d1_7 : decode prog_103_method_6_code 7 = .ok (.bipush 10, 2) := by decide +kernel
theorem d1_9 : decode prog_103_method_6_code 9 = .ok (.if_icmp .eq 45, 3) := by decide +kernel
theorem d1_12 : decode prog_103_method_6_code 12 = .ok (.iload_n 1, 1) := by decide +kernel
theorem d1_13 : decode prog_103_method_6_code 13 = .ok (.bipush 13, 2) := by decide +kernel
theorem d1_15 : decode prog_103_method_6_code 15 = .ok (.if_icmp .eq 39, 3) := by decide +kernel
theorem d1_18 : decode prog_103_method_6_code 18 = .ok (.iload_n 1, 1) := by decide +kernel
theorem d1_19 : decode prog_103_method_6_code 19 = .ok (.bipush 32, 2) := by decide +kernel
theorem d1_21 : decode prog_103_method_6_code 21 = .ok (.if_icmp .lt 9, 3) := by decide +kernel
theorem d1_24 : decode prog_103_method_6_code 24 = .ok (.iload_n 1, 1) := by decide +kernel
theorem d1_25 : decode prog_103_method_6_code 25 = .ok (.ldc 53, 2) := by decide +kernel
theorem d1_27 : decode prog_103_method_6_code 27 = .ok (.if_icmp .le 27, 3) := by decide +kernel
theorem d1_30 : decode prog_103_method_6_code 30 = .ok (.iload_n 1, 1) := by decide +kernel
theorem d1_31 : decode prog_103_method_6_code 31 = .ok (.ldc 54, 2) := by decide +kernel
theorem d1_33 : decode prog_103_method_6_code 33 = .ok (.if_icmp .lt 9, 3) := by decide +kernel
theorem d1_36 : decode prog_103_method_6_code 36 = .ok (.iload_n 1, 1) := by decide +kernel
theorem d1_37 : decode prog_103_method_6_code 37 = .ok (.ldc 55, 2) := by decide +kernel
theorem d1_39 : decode prog_103_method_6_code 39 = .ok (.if_icmp .le 15, 3) := by decide +kernel
theorem d1_42 : decode prog_103_method_6_code 42 = .ok (.iload_n 1, 1) := by decide +kernel
theorem d1_43 : decode prog_103_method_6_code 43 = .ok (.ldc 56, 2) := by decide +kernel
theorem d1_45 : decode prog_103_method_6_code 45 = .ok (.if_icmp .lt 13, 3) := by decide +kernel
theorem d1_48 : decode prog_103_method_6_code 48 = .ok (.iload_n 1, 1) := by decide +kernel
theorem d1_49 : decode prog_103_method_6_code 49 = .ok (.ldc 59, 2) := by decide +kernel
theorem d1_51 : decode prog_103_method_6_code 51 = .ok (.if_icmp .gt 7, 3) := by decide +kernel
theorem d1_54 : decode prog_103_method_6_code 54 = .ok (.iconst 1, 1) := by decide +kernel
theorem d1_55 : decode prog_103_method_6_code 55 = .ok (.goto 4, 3) := by decide +kernel
theorem d1_58 : decode prog_103_method_6_code 58 = .ok (.iconst 0, 1) := by decide +kernel
theorem d1_59 : decode prog_103_method_6_code 59 = .ok (.istore_n 2, 1) := by decide +kernel
theorem d1_60 : decode prog_103_method_6_code 60 = .ok (.aload_n 0, 1) := by decide +kernel
theorem d1_61 : decode prog_103_method_6_code 61 = .ok (.getstatic 10, 3) := by decide +kernel
theorem d1_64 : decode prog_103_method_6_code 64 = .ok (.if_acmp .ne 8, 3) := by decide +kernel
theorem d1_67 : decode prog_103_method_6_code 67 = .ok (.iconst 1, 1) := by decide +kernel
theorem d1_68 : decode prog_103_method_6_code 68 = .ok (.istore_n 3, 1) := by decide +kernel
theorem d1_69 : decode prog_103_method_6_code 69 = .ok (.goto 36, 3) := by decide +kernel
theorem d1_72 : decode prog_103_method_6_code 72 = .ok (.aload_n 0, 1) := by decide +kernel
theorem d1_73 : decode prog_103_method_6_code 73 = .ok (.getstatic 7, 3) := by decide +kernel
theorem d1_76 : decode prog_103_method_6_code 76 = .ok (.if_acmp .ne 27, 3) := by decide +kernel
theorem d1_79 : decode prog_103_method_6_code 79 = .ok (.iload_n 2, 1) := by decide +kernel
theorem d1_80 : decode prog_103_method_6_code 80 = .ok (.ifCond .ne 14, 3) := by decide +kernel
theorem d1_83 : decode prog_103_method_6_code 83 = .ok (.iload_n 1, 1) := by decide +kernel
theorem d1_84 : decode prog_103_method_6_code 84 = .ok (.iconst 1, 1) := by decide +kernel
theorem d1_85 : decode prog_103_method_6_code 85 = .ok (.if_icmp .lt 13, 3) := by decide +kernel
theorem d1_88 : decode prog_103_method_6_code 88 = .ok (.iload_n 1, 1) := by decide +kernel
theorem d1_89 : decode prog_103_method_6_code 89 = .ok (.bipush 32, 2) := by decide +kernel
theorem d1_91 : decode prog_103_method_6_code 91 = .ok (.if_icmp .ge 7, 3) := by decide +kernel
theorem d1_94 : decode prog_103_method_6_code 94 = .ok (.iconst 1, 1) := by decide +kernel
theorem d1_95 : decode prog_103_method_6_code 95 = .ok (.goto 4, 3) := by decide +kernel
theorem d1_98 : decode prog_103_method_6_code 98 = .ok (.iconst 0, 1) := by decide +kernel
theorem d1_99 : decode prog_103_method_6_code 99 = .ok (.istore_n 3, 1) := by decide +kernel
theorem d1_100 : decode prog_103_method_6_code 100 = .ok (.goto 5, 3) := by decide +kernel
theorem d1_103 : decode prog_103_method_6_code 103 = .ok (.iload_n 2, 1) := by decide +kernel
theorem d1_104 : decode prog_103_method_6_code 104 = .ok (.istore_n 3, 1) := by decide +kernel
theorem d1_105 : decode prog_103_method_6_code 105 = .ok (.iload_n 3, 1) := by decide +kernel
theorem d1_106 : decode prog_103_method_6_code 106 = .ok (.ireturn, 1) := by decide +kernel
theorem d2_0 : decode method_2_code 0 = .ok (.iload_n 0, 1) := by decide +kernel
theorem d2_1 : decode method_2_code 1 = .ok (.iconst 2, 1) := by decide +kernel
theorem d2_2 : decode method_2_code 2 = .ok (.if_icmp .ne 5, 3) := by decide +kernel
theorem d2_5 : decode method_2_code 5 = .ok (.iconst 1, 1) := by decide +kernel
theorem d2_6 : decode method_2_code 6 = .ok (.ireturn, 1) := by decide +kernel
theorem d2_7 : decode method_2_code 7 = .ok (.iload_n 1, 1) := by decide +kernel
theorem d2_8 : decode method_2_code 8 = .ok (.ifCond .gt 5, 3) := by decide +kernel
theorem d2_11 : decode method_2_code 11 = .ok (.iconst 0, 1) := by decide +kernel
theorem d2_12 : decode method_2_code 12 = .ok (.ireturn, 1) := by decide +kernel
theorem d2_13 : decode method_2_code 13 = .ok (.iload_n 1, 1) := by decide +kernel
theorem d2_14 : decode method_2_code 14 = .ok (.bipush 32, 2) := by decide +kernel
theorem d2_16 : decode method_2_code 16 = .ok (.if_icmp .ge 34, 3) := by decide +kernel
theorem d2_19 : decode method_2_code 19 = .ok (.iload_n 1, 1) := by decide +kernel
theorem d2_20 : decode method_2_code 20 = .ok (.bipush 9, 2) := by decide +kernel
theorem d2_22 : decode method_2_code 22 = .ok (.if_icmp .eq 15, 3) := by decide +kernel
theorem d2_25 : decode method_2_code 25 = .ok (.iload_n 1, 1) := by decide +kernel
theorem d2_26 : decode method_2_code 26 = .ok (.bipush 10, 2) := by decide +kernel
theorem d2_28 : decode method_2_code 28 = .ok (.if_icmp .eq 9, 3) := by decide +kernel
theorem d2_31 : decode method_2_code 31 = .ok (.iload_n 1, 1) := by decide +kernel
theorem d2_32 : decode method_2_code 32 = .ok (.bipush 13, 2) := by decide +kernel
theorem d2_34 : decode method_2_code 34 = .ok (.if_icmp .ne 5, 3) := by decide +kernel
theorem d2_37 : decode method_2_code 37 = .ok (.iconst 1, 1) := by decide +kernel
theorem d2_38 : decode method_2_code 38 = .ok (.ireturn, 1) := by decide +kernel
theorem d2_39 : decode method_2_code 39 = .ok (.iload_n 0, 1) := by decide +kernel
theorem d2_40 : decode method_2_code 40 = .ok (.iconst 1, 1) := by decide +kernel
theorem d2_41 : decode method_2_code 41 = .ok (.if_icmp .ne 7, 3) := by decide +kernel
theorem d2_44 : decode method_2_code 44 = .ok (.iconst 1, 1) := by decide +kernel
theorem d2_45 : decode method_2_code 45 = .ok (.goto 4, 3) := by decide +kernel
theorem d2_48 : decode method_2_code 48 = .ok (.iconst 0, 1) := by decide +kernel
theorem d2_49 : decode method_2_code 49 = .ok (.ireturn, 1) := by decide +kernel
theorem d2_50 : decode method_2_code 50 = .ok (.iload_n 1, 1) := by decide +kernel
theorem d2_51 : decode method_2_code 51 = .ok (.ldc 7, 2) := by decide +kernel
theorem d2_53 : decode method_2_code 53 = .ok (.if_icmp .ge 5, 3) := by decide +kernel
theorem d2_56 : decode method_2_code 56 = .ok (.iconst 1, 1) := by decide +kernel
theorem d2_57 : decode method_2_code 57 = .ok (.ireturn, 1) := by decide +kernel
theorem d2_58 : decode method_2_code 58 = .ok (.iload_n 1, 1) := by decide +kernel
theorem d2_59 : decode method_2_code 59 = .ok (.ldc 8, 2) := by decide +kernel
theorem d2_61 : decode method_2_code 61 = .ok (.if_icmp .ge 5, 3) := by decide +kernel
theorem d2_64 : decode method_2_code 64 = .ok (.iconst 0, 1) := by decide +kernel
theorem d2_65 : decode method_2_code 65 = .ok (.ireturn, 1) := by decide +kernel
theorem d2_66 : decode method_2_code 66 = .ok (.iload_n 1, 1) := by decide +kernel
theorem d2_67 : decode method_2_code 67 = .ok (.ldc 9, 2) := by decide +kernel
theorem d2_69 : decode method_2_code 69 = .ok (.if_icmp .ge 5, 3) := by decide +kernel
theorem d2_72 : decode method_2_code 72 = .ok (.iconst 1, 1) := by decide +kernel
theorem d2_73 : decode method_2_code 73 = .ok (.ireturn, 1) := by decide +kernel
theorem d2_74 : decode method_2_code 74 = .ok (.iload_n 1, 1) := by decide +kernel
theorem d2_75 : decode method_2_code 75 = .ok (.ldc 10, 2) := by decide +kernel
theorem d2_77 : decode method_2_code 77 = .ok (.if_icmp .ge 5, 3) := by decide +kernel
theorem d2_80 : decode method_2_code 80 = .ok (.iconst 0, 1) := by decide +kernel
theorem d2_81 : decode method_2_code 81 = .ok (.ireturn, 1) := by decide +kernel
theorem d2_82 : decode method_2_code 82 = .ok (.iload_n 1, 1) := by decide +kernel
theorem d2_83 : decode method_2_code 83 = .ok (.ldc 11, 2) := by decide +kernel
theorem d2_85 : decode method_2_code 85 = .ok (.if_icmp .gt 7, 3) := by decide +kernel
theorem d2_88 : decode method_2_code 88 = .ok (.iconst 1, 1) := by decide +kernel
theorem d2_89 : decode method_2_code 89 = .ok (.goto 4, 3) := by decide +kernel
theorem d2_92 : decode method_2_code 92 = .ok (.iconst 0, 1) := by decide +kernel
theorem d2_93 : decode method_2_code 93 = .ok (.ireturn, 1) := by decide +kernel
def hold (o0 : Addr) (p1 : Int32) (s_HTML : Addr) (s_XML_1_1 : Addr) : Int32 := (if p1 = (9 : Int32) then (if o0 = s_HTML then (1 : Int32) else (if o0 = s_XML_1_1 then (1 : Int32) else (1 : Int32))) else (if p1 = (10 : Int32) then (if o0 = s_HTML then (1 : Int32) else (if o0 = s_XML_1_1 then (1 : Int32) else (1 : Int32))) else (if p1 = (13 : Int32) then (if o0 = s_HTML then (1 : Int32) else (if o0 = s_XML_1_1 then (1 : Int32) else (1 : Int32))) else (if p1 < (32 : Int32) then (if p1 < (57344 : Int32) then (if p1 < (65536 : Int32) then (if o0 = s_HTML then (1 : Int32) else (if o0 = s_XML_1_1 then (if p1 < (1 : Int32) then (0 : Int32) else (1 : Int32)) else (0 : Int32))) else (if (1114111 : Int32) < p1 then (if o0 = s_HTML then (1 : Int32) else (if o0 = s_XML_1_1 then (if p1 < (1 : Int32) then (0 : Int32) else (1 : Int32)) else (0 : Int32))) else (if o0 = s_HTML then (1 : Int32) else (if o0 = s_XML_1_1 then (1 : Int32) else (1 : Int32))))) else (if (65533 : Int32) < p1 then (if p1 < (65536 : Int32) then (if o0 = s_HTML then (1 : Int32) else (if o0 = s_XML_1_1 then (if p1 < (1 : Int32) then (0 : Int32) else (1 : Int32)) else (0 : Int32))) else (if (1114111 : Int32) < p1 then (if o0 = s_HTML then (1 : Int32) else (if o0 = s_XML_1_1 then (if p1 < (1 : Int32) then (0 : Int32) else (1 : Int32)) else (0 : Int32))) else (if o0 = s_HTML then (1 : Int32) else (if o0 = s_XML_1_1 then (1 : Int32) else (1 : Int32))))) else (if o0 = s_HTML then (1 : Int32) else (if o0 = s_XML_1_1 then (1 : Int32) else (1 : Int32))))) else (if (55295 : Int32) < p1 then (if p1 < (57344 : Int32) then (if p1 < (65536 : Int32) then (if o0 = s_HTML then (1 : Int32) else (if o0 = s_XML_1_1 then (if p1 < (1 : Int32) then (0 : Int32) else (0 : Int32)) else (0 : Int32))) else (if (1114111 : Int32) < p1 then (if o0 = s_HTML then (1 : Int32) else (if o0 = s_XML_1_1 then (if p1 < (1 : Int32) then (0 : Int32) else (0 : Int32)) else (0 : Int32))) else (if o0 = s_HTML then (1 : Int32) else (if o0 = s_XML_1_1 then (1 : Int32) else (1 : Int32))))) else (if (65533 : Int32) < p1 then (if p1 < (65536 : Int32) then (if o0 = s_HTML then (1 : Int32) else (if o0 = s_XML_1_1 then (if p1 < (1 : Int32) then (0 : Int32) else (0 : Int32)) else (0 : Int32))) else (if (1114111 : Int32) < p1 then (if o0 = s_HTML then (1 : Int32) else (if o0 = s_XML_1_1 then (if p1 < (1 : Int32) then (0 : Int32) else (0 : Int32)) else (0 : Int32))) else (if o0 = s_HTML then (1 : Int32) else (if o0 = s_XML_1_1 then (1 : Int32) else (1 : Int32))))) else (if o0 = s_HTML then (1 : Int32) else (if o0 = s_XML_1_1 then (1 : Int32) else (1 : Int32))))) else (if o0 = s_HTML then (1 : Int32) else (if o0 = s_XML_1_1 then (1 : Int32) else (1 : Int32))))))))
abbrev Rm1 : Room := { frames := 0, cells := 0, slots := 0, locals := 0 }
theorem ef_1 (m : MethodId) (o0 : Addr) (p1 : Int32) : entryFrame m #[(.ref o0), (.int p1)] 4 = mkF m 0 #[.val (.ref o0), .val (.int p1), .unset, .unset] [] := by first | (simp [entryFrame, mkF, argsToLocals, Value.category]; done) | rfl
def Q1 (Z : State) (o0 : Addr) (p1 : Int32) (s_HTML : Addr) (s_XML_1_1 : Addr) (h0 : Heap) (n0 : Nat) (v : Option Value) (h : Heap) (L : List Loc) : Prop := v = some (.int (hold o0 p1 s_HTML s_XML_1_1)) ∧ Fr n0 L ∧ h = h0
set_option maxRecDepth 65536 in
set_option maxHeartbeats 40000000 in
theorem rm1 (l : Launch) (Z : State) (a0 : Array Value) (hw : ∀ d ∈ tables_1, d.before a0 Z = true) (ws : List Jvm.Cond) (o0 : Addr) (p1 : Int32) (s_HTML : Addr) (s_XML_1_1 : Addr) (h0 : Heap) (n0 : Nat) (Z0 : n0 ≤ h0.size) (S_HTML : Sta Z h0 "com/example/osprey/osprey/transform/Repertoire" "HTML" "Lcom/example/osprey/osprey/transform/Repertoire;" (.ref s_HTML)) (S_XML_1_1 : Sta Z h0 "com/example/osprey/osprey/transform/Repertoire" "XML_1_1" "Lcom/example/osprey/osprey/transform/Repertoire;" (.ref s_XML_1_1)) :
    MetFree l (⟨"com/example/osprey/osprey/transform/Repertoire", "holds", "(I)Z"⟩ : MethodName) (head1 (Jvm.Cond.code (⟨"com/example/osprey/osprey/transform/Repertoire", "holds", "(I)Z"⟩ : MethodName) prog_103_method_6_code 4 (some .boolean) :: ws) Rm1) (fun a U => a = #[(.ref o0), (.int p1)] ∧ Z.Warmed39 U.vm ∧ U.heap = h0) (fun _ _ _ _ _ => True) (fun _ U o U' => ∃ v L, o = .returned v ∧ Q1 Z o0 p1 s_HTML s_XML_1_1 h0 n0 v U'.heap L ∧ FrameEnd U o U' L Rm1.cells Rm1.slots) := by
  refine MetFree.of_bodySF (plainFor_of_name pn0) hisR ?_
  intro p e s m args below meth c s₁ Bd hml0 hP hK
  obtain ⟨rfl, hZ, hh⟩ := hP
  have hx := Bd.exec
  have hby := Bd.bytes
  have hml : c.maxLocals = 4 := hml0
  have hown : s.vm.findClass "com/example/osprey/osprey/transform/Repertoire" = some m.cls := findClass_of_methodNamed Bd.named
  have hnm := (name_of_methodNamed Bd.named Bd.method).1
  have X0 : Stand p l e Rm1 s m #[(.ref o0), (.int p1)] below meth c s₁ [] 0 0 := Stand.of_body Bd
  have e0 : s₁.heap = h0 := by rw [← hh, Bd.state]; rfl
  have N0 := Fr.nil n0
  show Dn p e below s Rm1.cells Rm1.slots (Q1 Z o0 p1 s_HTML s_XML_1_1 h0 n0) (s₁.setTop (entryFrame m #[(.ref o0), (.int p1)] 4))
  rw [ef_1]
  refine Dn.by (U' := s₁.setTop (mkF m 1 #[.val (.ref o0), .val (.int p1), .unset, .unset] [(.int p1)])) (fun _ k => XS.iloadN X0.here hx rfl (hb hby d1_0) rfl k) ?_
  refine Dn.by (U' := s₁.setTop (mkF m 3 #[.val (.ref o0), .val (.int p1), .unset, .unset] [(.int (9 : Int32)), (.int p1)])) (fun _ k => XS.bipush X0.here hx rfl (hb hby d1_1)  k) ?_
  by_cases c3_1 : p1 = (9 : Int32)
  ·
    refine Dn.by (U' := s₁.setTop (mkF m 54 #[.val (.ref o0), .val (.int p1), .unset, .unset] [])) (fun _ k => XS.icmpYes X0.here hx rfl (pc0 := 3) (pc' := 54) rfl (hb hby d1_3) rfl (teq c3_1).1 (by decide) (by decide) k) ?_
    refine Dn.by (U' := s₁.setTop (mkF m 55 #[.val (.ref o0), .val (.int p1), .unset, .unset] [(.int (1 : Int32))])) (fun _ k => XS.iconst X0.here hx rfl (hb hby d1_54)  k) ?_
    refine Dn.by (U' := s₁.setTop (mkF m 59 #[.val (.ref o0), .val (.int p1), .unset, .unset] [(.int (1 : Int32))])) (fun _ k => XS.goto X0.here hx rfl (pc0 := 55) (pc' := 59) rfl (hb hby d1_55) (by decide) (by decide) k) ?_
    refine Dn.by (U' := s₁.setTop (mkF m 60 #[.val (.ref o0), .val (.int p1), .val (.int (1 : Int32)), .unset] [])) (fun _ k => XS.istoreN X0.here hx rfl (hb hby d1_59) rfl (l' := #[.val (.ref o0), .val (.int p1), .val (.int (1 : Int32)), .unset]) rfl k) ?_
    refine Dn.by (U' := s₁.setTop (mkF m 61 #[.val (.ref o0), .val (.int p1), .val (.int (1 : Int32)), .unset] [(.ref o0)])) (fun _ k => XS.aloadN X0.here hx rfl (hb hby d1_60) rfl rfl k) ?_
    obtain ⟨T2, X2, e2, st2⟩ := getS2 X0 hx hZ (a0 := a0) hown (host := "") (Or.inl (hw _ (List.mem_of_getElem? (i := 25) rfl))) Via.refl e0 S_HTML (g := (mkF m 61 #[.val (.ref o0), .val (.int p1), .val (.int (1 : Int32)), .unset] [(.ref o0)])) rfl (hb hby d1_61)
    refine Dn.by (U' := T2.setTop (mkF m 64 #[.val (.ref o0), .val (.int p1), .val (.int (1 : Int32)), .unset] [(.ref s_HTML), (.ref o0)])) st2 ?_
    by_cases c64_3 : o0 = s_HTML
    ·
      refine Dn.by (U' := T2.setTop (mkF m 67 #[.val (.ref o0), .val (.int p1), .val (.int (1 : Int32)), .unset] [])) (fun _ k => Jvm.RoadKit.acmp (g := (mkF m 64 #[.val (.ref o0), .val (.int p1), .val (.int (1 : Int32)), .unset] [(.ref s_HTML), (.ref o0)])) X2 hx rfl rfl rfl (pc0 := 64) (pc' := 67) (same := true) rfl (hb hby d1_64) rfl (decide_eq_true (congrArg Value.ref c64_3)) (by decide) (by decide) k) ?_
      refine Dn.by (U' := T2.setTop (mkF m 68 #[.val (.ref o0), .val (.int p1), .val (.int (1 : Int32)), .unset] [(.int (1 : Int32))])) (fun _ k => XS.iconst X2.here hx rfl (hb hby d1_67)  k) ?_
      refine Dn.by (U' := T2.setTop (mkF m 69 #[.val (.ref o0), .val (.int p1), .val (.int (1 : Int32)), .val (.int (1 : Int32))] [])) (fun _ k => XS.istoreN X2.here hx rfl (hb hby d1_68) rfl (l' := #[.val (.ref o0), .val (.int p1), .val (.int (1 : Int32)), .val (.int (1 : Int32))]) rfl k) ?_
      refine Dn.by (U' := T2.setTop (mkF m 105 #[.val (.ref o0), .val (.int p1), .val (.int (1 : Int32)), .val (.int (1 : Int32))] [])) (fun _ k => XS.goto X2.here hx rfl (pc0 := 69) (pc' := 105) rfl (hb hby d1_69) (by decide) (by decide) k) ?_
      refine Dn.by (U' := T2.setTop (mkF m 106 #[.val (.ref o0), .val (.int p1), .val (.int (1 : Int32)), .val (.int (1 : Int32))] [(.int (1 : Int32))])) (fun _ k => XS.iloadN X2.here hx rfl (hb hby d1_105) rfl k) ?_
      refine Dn.out X2 (v := (some (.int (1 : Int32)))) (fun h => by rw [Bd.returns] at h; cases h) (BodyLoose.notSynchronized Bd) (fun _ hr => retN X2 hx (t := .boolean) Bd.returns (by simp) (hb hby d1_106) hr) (by decide) (by decide) ?_
      rw [e2]
      exact ⟨by simp only [hold, if_pos c3_1, if_pos c64_3], N0, rfl⟩
    ·
      refine Dn.by (U' := T2.setTop (mkF m 72 #[.val (.ref o0), .val (.int p1), .val (.int (1 : Int32)), .unset] [])) (fun _ k => Jvm.RoadKit.acmp (g := (mkF m 64 #[.val (.ref o0), .val (.int p1), .val (.int (1 : Int32)), .unset] [(.ref s_HTML), (.ref o0)])) X2 hx rfl rfl rfl (pc0 := 64) (pc' := 72) (same := false) rfl (hb hby d1_64) rfl (decide_eq_false fun q => c64_3 (Value.ref.inj q)) (by decide) (by decide) k) ?_
      refine Dn.by (U' := T2.setTop (mkF m 73 #[.val (.ref o0), .val (.int p1), .val (.int (1 : Int32)), .unset] [(.ref o0)])) (fun _ k => XS.aloadN X2.here hx rfl (hb hby d1_72) rfl rfl k) ?_
      obtain ⟨T4, X4, e4, st4⟩ := getS2 X2 hx hZ (a0 := a0) hown (host := "") (Or.inl (hw _ (List.mem_of_getElem? (i := 26) rfl))) Via.refl e2 S_XML_1_1 (g := (mkF m 73 #[.val (.ref o0), .val (.int p1), .val (.int (1 : Int32)), .unset] [(.ref o0)])) rfl (hb hby d1_73)
      refine Dn.by (U' := T4.setTop (mkF m 76 #[.val (.ref o0), .val (.int p1), .val (.int (1 : Int32)), .unset] [(.ref s_XML_1_1), (.ref o0)])) st4 ?_
      by_cases c76_5 : o0 = s_XML_1_1
      ·
        refine Dn.by (U' := T4.setTop (mkF m 79 #[.val (.ref o0), .val (.int p1), .val (.int (1 : Int32)), .unset] [])) (fun _ k => Jvm.RoadKit.acmp (g := (mkF m 76 #[.val (.ref o0), .val (.int p1), .val (.int (1 : Int32)), .unset] [(.ref s_XML_1_1), (.ref o0)])) X4 hx rfl rfl rfl (pc0 := 76) (pc' := 79) (same := true) rfl (hb hby d1_76) rfl (decide_eq_true (congrArg Value.ref c76_5)) (by decide) (by decide) k) ?_
        refine Dn.by (U' := T4.setTop (mkF m 80 #[.val (.ref o0), .val (.int p1), .val (.int (1 : Int32)), .unset] [(.int (1 : Int32))])) (fun _ k => XS.iloadN X4.here hx rfl (hb hby d1_79) rfl k) ?_
        refine Dn.by (U' := T4.setTop (mkF m 94 #[.val (.ref o0), .val (.int p1), .val (.int (1 : Int32)), .unset] [])) (fun _ k => XS.ifYes X4.here hx rfl (pc0 := 80) (pc' := 94) rfl (hb hby d1_80) rfl (by decide) (by decide) (by decide) k) ?_
        refine Dn.by (U' := T4.setTop (mkF m 95 #[.val (.ref o0), .val (.int p1), .val (.int (1 : Int32)), .unset] [(.int (1 : Int32))])) (fun _ k => XS.iconst X4.here hx rfl (hb hby d1_94)  k) ?_
        refine Dn.by (U' := T4.setTop (mkF m 99 #[.val (.ref o0), .val (.int p1), .val (.int (1 : Int32)), .unset] [(.int (1 : Int32))])) (fun _ k => XS.goto X4.here hx rfl (pc0 := 95) (pc' := 99) rfl (hb hby d1_95) (by decide) (by decide) k) ?_
        refine Dn.by (U' := T4.setTop (mkF m 100 #[.val (.ref o0), .val (.int p1), .val (.int (1 : Int32)), .val (.int (1 : Int32))] [])) (fun _ k => XS.istoreN X4.here hx rfl (hb hby d1_99) rfl (l' := #[.val (.ref o0), .val (.int p1), .val (.int (1 : Int32)), .val (.int (1 : Int32))]) rfl k) ?_
        refine Dn.by (U' := T4.setTop (mkF m 105 #[.val (.ref o0), .val (.int p1), .val (.int (1 : Int32)), .val (.int (1 : Int32))] [])) (fun _ k => XS.goto X4.here hx rfl (pc0 := 100) (pc' := 105) rfl (hb hby d1_100) (by decide) (by decide) k) ?_
        refine Dn.by (U' := T4.setTop (mkF m 106 #[.val (.ref o0), .val (.int p1), .val (.int (1 : Int32)), .val (.int (1 : Int32))] [(.int (1 : Int32))])) (fun _ k => XS.iloadN X4.here hx rfl (hb hby d1_105) rfl k) ?_
        refine Dn.out X4 (v := (some (.int (1 : Int32)))) (fun h => by rw [Bd.returns] at h; cases h) (BodyLoose.notSynchronized Bd) (fun _ hr => retN X4 hx (t := .boolean) Bd.returns (by simp) (hb hby d1_106) hr) (by decide) (by decide) ?_
        rw [e4]
        exact ⟨by simp only [hold, if_pos c3_1, if_neg c64_3, if_pos c76_5], N0, rfl⟩
      ·
        refine Dn.by (U' := T4.setTop (mkF m 103 #[.val (.ref o0), .val (.int p1), .val (.int (1 : Int32)), .unset] [])) (fun _ k => Jvm.RoadKit.acmp (g := (mkF m 76 #[.val (.ref o0), .val (.int p1), .val (.int (1 : Int32)), .unset] [(.ref s_XML_1_1), (.ref o0)])) X4 hx rfl rfl rfl (pc0 := 76) (pc' := 103) (same := false) rfl (hb hby d1_76) rfl (decide_eq_false fun q => c76_5 (Value.ref.inj q)) (by decide) (by decide) k) ?_
        refine Dn.by (U' := T4.setTop (mkF m 104 #[.val (.ref o0), .val (.int p1), .val (.int (1 : Int32)), .unset] [(.int (1 : Int32))])) (fun _ k => XS.iloadN X4.here hx rfl (hb hby d1_103) rfl k) ?_
        refine Dn.by (U' := T4.setTop (mkF m 105 #[.val (.ref o0), .val (.int p1), .val (.int (1 : Int32)), .val (.int (1 : Int32))] [])) (fun _ k => XS.istoreN X4.here hx rfl (hb hby d1_104) rfl (l' := #[.val (.ref o0), .val (.int p1), .val (.int (1 : Int32)), .val (.int (1 : Int32))]) rfl k) ?_
        refine Dn.by (U' := T4.setTop (mkF m 106 #[.val (.ref o0), .val (.int p1), .val (.int (1 : Int32)), .val (.int (1 : Int32))] [(.int (1 : Int32))])) (fun _ k => XS.iloadN X4.here hx rfl (hb hby d1_105) rfl k) ?_
        refine Dn.out X4 (v := (some (.int (1 : Int32)))) (fun h => by rw [Bd.returns] at h; cases h) (BodyLoose.notSynchronized Bd) (fun _ hr => retN X4 hx (t := .boolean) Bd.returns (by simp) (hb hby d1_106) hr) (by decide) (by decide) ?_
        rw [e4]
        exact ⟨by simp only [hold, if_pos c3_1, if_neg c64_3, if_neg c76_5], N0, rfl⟩
  ·
    refine Dn.by (U' := s₁.setTop (mkF m 6 #[.val (.ref o0), .val (.int p1), .unset, .unset] [])) (fun _ k => XS.icmpNo X0.here hx rfl (hb hby d1_3) rfl (feq c3_1).1 k) ?_
    refine Dn.by (U' := s₁.setTop (mkF m 7 #[.val (.ref o0), .val (.int p1), .unset, .unset] [(.int p1)])) (fun _ k => XS.iloadN X0.here hx rfl (hb hby d1_6) rfl k) ?_
    refine Dn.by (U' := s₁.setTop (mkF m 9 #[.val (.ref o0), .val (.int p1), .unset, .unset] [(.int (10 : Int32)), (.int p1)])) (fun _ k => XS.bipush X0.here hx rfl (hb hby d1_7)  k) ?_
    by_cases c9_6 : p1 = (10 : Int32)
    ·
      refine Dn.by (U' := s₁.setTop (mkF m 54 #[.val (.ref o0), .val (.int p1), .unset, .unset] [])) (fun _ k => XS.icmpYes X0.here hx rfl (pc0 := 9) (pc' := 54) rfl (hb hby d1_9) rfl (teq c9_6).1 (by decide) (by decide) k) ?_
      refine Dn.by (U' := s₁.setTop (mkF m 55 #[.val (.ref o0), .val (.int p1), .unset, .unset] [(.int (1 : Int32))])) (fun _ k => XS.iconst X0.here hx rfl (hb hby d1_54)  k) ?_
      refine Dn.by (U' := s₁.setTop (mkF m 59 #[.val (.ref o0), .val (.int p1), .unset, .unset] [(.int (1 : Int32))])) (fun _ k => XS.goto X0.here hx rfl (pc0 := 55) (pc' := 59) rfl (hb hby d1_55) (by decide) (by decide) k) ?_
      refine Dn.by (U' := s₁.setTop (mkF m 60 #[.val (.ref o0), .val (.int p1), .val (.int (1 : Int32)), .unset] [])) (fun _ k => XS.istoreN X0.here hx rfl (hb hby d1_59) rfl (l' := #[.val (.ref o0), .val (.int p1), .val (.int (1 : Int32)), .unset]) rfl k) ?_
      refine Dn.by (U' := s₁.setTop (mkF m 61 #[.val (.ref o0), .val (.int p1), .val (.int (1 : Int32)), .unset] [(.ref o0)])) (fun _ k => XS.aloadN X0.here hx rfl (hb hby d1_60) rfl rfl k) ?_
      obtain ⟨T7, X7, e7, st7⟩ := getS2 X0 hx hZ (a0 := a0) hown (host := "") (Or.inl (hw _ (List.mem_of_getElem? (i := 25) rfl))) Via.refl e0 S_HTML (g := (mkF m 61 #[.val (.ref o0), .val (.int p1), .val (.int (1 : Int32)), .unset] [(.ref o0)])) rfl (hb hby d1_61)
      refine Dn.by (U' := T7.setTop (mkF m 64 #[.val (.ref o0), .val (.int p1), .val (.int (1 : Int32)), .unset] [(.ref s_HTML), (.ref o0)])) st7 ?_
      by_cases c64_8 : o0 = s_HTML
      ·
        refine Dn.by (U' := T7.setTop (mkF m 67 #[.val (.ref o0), .val (.int p1), .val (.int (1 : Int32)), .unset] [])) (fun _ k => Jvm.RoadKit.acmp (g := (mkF m 64 #[.val (.ref o0), .val (.int p1), .val (.int (1 : Int32)), .unset] [(.ref s_HTML), (.ref o0)])) X7 hx rfl rfl rfl (pc0 := 64) (pc' := 67) (same := true) rfl (hb hby d1_64) rfl (decide_eq_true (congrArg Value.ref c64_8)) (by decide) (by decide) k) ?_
        refine Dn.by (U' := T7.setTop (mkF m 68 #[.val (.ref o0), .val (.int p1), .val (.int (1 : Int32)), .unset] [(.int (1 : Int32))])) (fun _ k => XS.iconst X7.here hx rfl (hb hby d1_67)  k) ?_
        refine Dn.by (U' := T7.setTop (mkF m 69 #[.val (.ref o0), .val (.int p1), .val (.int (1 : Int32)), .val (.int (1 : Int32))] [])) (fun _ k => XS.istoreN X7.here hx rfl (hb hby d1_68) rfl (l' := #[.val (.ref o0), .val (.int p1), .val (.int (1 : Int32)), .val (.int (1 : Int32))]) rfl k) ?_
        refine Dn.by (U' := T7.setTop (mkF m 105 #[.val (.ref o0), .val (.int p1), .val (.int (1 : Int32)), .val (.int (1 : Int32))] [])) (fun _ k => XS.goto X7.here hx rfl (pc0 := 69) (pc' := 105) rfl (hb hby d1_69) (by decide) (by decide) k) ?_
        refine Dn.by (U' := T7.setTop (mkF m 106 #[.val (.ref o0), .val (.int p1), .val (.int (1 : Int32)), .val (.int (1 : Int32))] [(.int (1 : Int32))])) (fun _ k => XS.iloadN X7.here hx rfl (hb hby d1_105) rfl k) ?_
        refine Dn.out X7 (v := (some (.int (1 : Int32)))) (fun h => by rw [Bd.returns] at h; cases h) (BodyLoose.notSynchronized Bd) (fun _ hr => retN X7 hx (t := .boolean) Bd.returns (by simp) (hb hby d1_106) hr) (by decide) (by decide) ?_
        rw [e7]
        exact ⟨by simp only [hold, if_neg c3_1, if_pos c9_6, if_pos c64_8], N0, rfl⟩
      ·
        refine Dn.by (U' := T7.setTop (mkF m 72 #[.val (.ref o0), .val (.int p1), .val (.int (1 : Int32)), .unset] [])) (fun _ k => Jvm.RoadKit.acmp (g := (mkF m 64 #[.val (.ref o0), .val (.int p1), .val (.int (1 : Int32)), .unset] [(.ref s_HTML), (.ref o0)])) X7 hx rfl rfl rfl (pc0 := 64) (pc' := 72) (same := false) rfl (hb hby d1_64) rfl (decide_eq_false fun q => c64_8 (Value.ref.inj q)) (by decide) (by decide) k) ?_
        refine Dn.by (U' := T7.setTop (mkF m 73 #[.val (.ref o0), .val (.int p1), .val (.int (1 : Int32)), .unset] [(.ref o0)])) (fun _ k => XS.aloadN X7.here hx rfl (hb hby d1_72) rfl rfl k) ?_
        obtain ⟨T9, X9, e9, st9⟩ := getS2 X7 hx hZ (a0 := a0) hown (host := "") (Or.inl (hw _ (List.mem_of_getElem? (i := 26) rfl))) Via.refl e7 S_XML_1_1 (g := (mkF m 73 #[.val (.ref o0), .val (.int p1), .val (.int (1 : Int32)), .unset] [(.ref o0)])) rfl (hb hby d1_73)
        refine Dn.by (U' := T9.setTop (mkF m 76 #[.val (.ref o0), .val (.int p1), .val (.int (1 : Int32)), .unset] [(.ref s_XML_1_1), (.ref o0)])) st9 ?_
        by_cases c76_10 : o0 = s_XML_1_1
        ·
          refine Dn.by (U' := T9.setTop (mkF m 79 #[.val (.ref o0), .val (.int p1), .val (.int (1 : Int32)), .unset] [])) (fun _ k => Jvm.RoadKit.acmp (g := (mkF m 76 #[.val (.ref o0), .val (.int p1), .val (.int (1 : Int32)), .unset] [(.ref s_XML_1_1), (.ref o0)])) X9 hx rfl rfl rfl (pc0 := 76) (pc' := 79) (same := true) rfl (hb hby d1_76) rfl (decide_eq_true (congrArg Value.ref c76_10)) (by decide) (by decide) k) ?_
          refine Dn.by (U' := T9.setTop (mkF m 80 #[.val (.ref o0), .val (.int p1), .val (.int (1 : Int32)), .unset] [(.int (1 : Int32))])) (fun _ k => XS.iloadN X9.here hx rfl (hb hby d1_79) rfl k) ?_
          refine Dn.by (U' := T9.setTop (mkF m 94 #[.val (.ref o0), .val (.int p1), .val (.int (1 : Int32)), .unset] [])) (fun _ k => XS.ifYes X9.here hx rfl (pc0 := 80) (pc' := 94) rfl (hb hby d1_80) rfl (by decide) (by decide) (by decide) k) ?_
          refine Dn.by (U' := T9.setTop (mkF m 95 #[.val (.ref o0), .val (.int p1), .val (.int (1 : Int32)), .unset] [(.int (1 : Int32))])) (fun _ k => XS.iconst X9.here hx rfl (hb hby d1_94)  k) ?_
          refine Dn.by (U' := T9.setTop (mkF m 99 #[.val (.ref o0), .val (.int p1), .val (.int (1 : Int32)), .unset] [(.int (1 : Int32))])) (fun _ k => XS.goto X9.here hx rfl (pc0 := 95) (pc' := 99) rfl (hb hby d1_95) (by decide) (by decide) k) ?_
          refine Dn.by (U' := T9.setTop (mkF m 100 #[.val (.ref o0), .val (.int p1), .val (.int (1 : Int32)), .val (.int (1 : Int32))] [])) (fun _ k => XS.istoreN X9.here hx rfl (hb hby d1_99) rfl (l' := #[.val (.ref o0), .val (.int p1), .val (.int (1 : Int32)), .val (.int (1 : Int32))]) rfl k) ?_
          refine Dn.by (U' := T9.setTop (mkF m 105 #[.val (.ref o0), .val (.int p1), .val (.int (1 : Int32)), .val (.int (1 : Int32))] [])) (fun _ k => XS.goto X9.here hx rfl (pc0 := 100) (pc' := 105) rfl (hb hby d1_100) (by decide) (by decide) k) ?_
          refine Dn.by (U' := T9.setTop (mkF m 106 #[.val (.ref o0), .val (.int p1), .val (.int (1 : Int32)), .val (.int (1 : Int32))] [(.int (1 : Int32))])) (fun _ k => XS.iloadN X9.here hx rfl (hb hby d1_105) rfl k) ?_
          refine Dn.out X9 (v := (some (.int (1 : Int32)))) (fun h => by rw [Bd.returns] at h; cases h) (BodyLoose.notSynchronized Bd) (fun _ hr => retN X9 hx (t := .boolean) Bd.returns (by simp) (hb hby d1_106) hr) (by decide) (by decide) ?_
          rw [e9]
          exact ⟨by simp only [hold, if_neg c3_1, if_pos c9_6, if_neg c64_8, if_pos c76_10], N0, rfl⟩
        ·
          refine Dn.by (U' := T9.setTop (mkF m 103 #[.val (.ref o0), .val (.int p1), .val (.int (1 : Int32)), .unset] [])) (fun _ k => Jvm.RoadKit.acmp (g := (mkF m 76 #[.val (.ref o0), .val (.int p1), .val (.int (1 : Int32)), .unset] [(.ref s_XML_1_1), (.ref o0)])) X9 hx rfl rfl rfl (pc0 := 76) (pc' := 103) (same := false) rfl (hb hby d1_76) rfl (decide_eq_false fun q => c76_10 (Value.ref.inj q)) (by decide) (by decide) k) ?_
          refine Dn.by (U' := T9.setTop (mkF m 104 #[.val (.ref o0), .val (.int p1), .val (.int (1 : Int32)), .unset] [(.int (1 : Int32))])) (fun _ k => XS.iloadN X9.here hx rfl (hb hby d1_103) rfl k) ?_
          refine Dn.by (U' := T9.setTop (mkF m 105 #[.val (.ref o0), .val (.int p1), .val (.int (1 : Int32)), .val (.int (1 : Int32))] [])) (fun _ k => XS.istoreN X9.here hx rfl (hb hby d1_104) rfl (l' := #[.val (.ref o0), .val (.int p1), .val (.int (1 : Int32)), .val (.int (1 : Int32))]) rfl k) ?_
          refine Dn.by (U' := T9.setTop (mkF m 106 #[.val (.ref o0), .val (.int p1), .val (.int (1 : Int32)), .val (.int (1 : Int32))] [(.int (1 : Int32))])) (fun _ k => XS.iloadN X9.here hx rfl (hb hby d1_105) rfl k) ?_
          refine Dn.out X9 (v := (some (.int (1 : Int32)))) (fun h => by rw [Bd.returns] at h; cases h) (BodyLoose.notSynchronized Bd) (fun _ hr => retN X9 hx (t := .boolean) Bd.returns (by simp) (hb hby d1_106) hr) (by decide) (by decide) ?_
          rw [e9]
          exact ⟨by simp only [hold, if_neg c3_1, if_pos c9_6, if_neg c64_8, if_neg c76_10], N0, rfl⟩
    ·
      refine Dn.by (U' := s₁.setTop (mkF m 12 #[.val (.ref o0), .val (.int p1), .unset, .unset] [])) (fun _ k => XS.icmpNo X0.here hx rfl (hb hby d1_9) rfl (feq c9_6).1 k) ?_
      refine Dn.by (U' := s₁.setTop (mkF m 13 #[.val (.ref o0), .val (.int p1), .unset, .unset] [(.int p1)])) (fun _ k => XS.iloadN X0.here hx rfl (hb hby d1_12) rfl k) ?_
      refine Dn.by (U' := s₁.setTop (mkF m 15 #[.val (.ref o0), .val (.int p1), .unset, .unset] [(.int (13 : Int32)), (.int p1)])) (fun _ k => XS.bipush X0.here hx rfl (hb hby d1_13)  k) ?_
      by_cases c15_11 : p1 = (13 : Int32)
      ·
        refine Dn.by (U' := s₁.setTop (mkF m 54 #[.val (.ref o0), .val (.int p1), .unset, .unset] [])) (fun _ k => XS.icmpYes X0.here hx rfl (pc0 := 15) (pc' := 54) rfl (hb hby d1_15) rfl (teq c15_11).1 (by decide) (by decide) k) ?_
        refine Dn.by (U' := s₁.setTop (mkF m 55 #[.val (.ref o0), .val (.int p1), .unset, .unset] [(.int (1 : Int32))])) (fun _ k => XS.iconst X0.here hx rfl (hb hby d1_54)  k) ?_
        refine Dn.by (U' := s₁.setTop (mkF m 59 #[.val (.ref o0), .val (.int p1), .unset, .unset] [(.int (1 : Int32))])) (fun _ k => XS.goto X0.here hx rfl (pc0 := 55) (pc' := 59) rfl (hb hby d1_55) (by decide) (by decide) k) ?_
        refine Dn.by (U' := s₁.setTop (mkF m 60 #[.val (.ref o0), .val (.int p1), .val (.int (1 : Int32)), .unset] [])) (fun _ k => XS.istoreN X0.here hx rfl (hb hby d1_59) rfl (l' := #[.val (.ref o0), .val (.int p1), .val (.int (1 : Int32)), .unset]) rfl k) ?_
        refine Dn.by (U' := s₁.setTop (mkF m 61 #[.val (.ref o0), .val (.int p1), .val (.int (1 : Int32)), .unset] [(.ref o0)])) (fun _ k => XS.aloadN X0.here hx rfl (hb hby d1_60) rfl rfl k) ?_
        obtain ⟨T12, X12, e12, st12⟩ := getS2 X0 hx hZ (a0 := a0) hown (host := "") (Or.inl (hw _ (List.mem_of_getElem? (i := 25) rfl))) Via.refl e0 S_HTML (g := (mkF m 61 #[.val (.ref o0), .val (.int p1), .val (.int (1 : Int32)), .unset] [(.ref o0)])) rfl (hb hby d1_61)
        refine Dn.by (U' := T12.setTop (mkF m 64 #[.val (.ref o0), .val (.int p1), .val (.int (1 : Int32)), .unset] [(.ref s_HTML), (.ref o0)])) st12 ?_
        by_cases c64_13 : o0 = s_HTML
        ·
          refine Dn.by (U' := T12.setTop (mkF m 67 #[.val (.ref o0), .val (.int p1), .val (.int (1 : Int32)), .unset] [])) (fun _ k => Jvm.RoadKit.acmp (g := (mkF m 64 #[.val (.ref o0), .val (.int p1), .val (.int (1 : Int32)), .unset] [(.ref s_HTML), (.ref o0)])) X12 hx rfl rfl rfl (pc0 := 64) (pc' := 67) (same := true) rfl (hb hby d1_64) rfl (decide_eq_true (congrArg Value.ref c64_13)) (by decide) (by decide) k) ?_
          refine Dn.by (U' := T12.setTop (mkF m 68 #[.val (.ref o0), .val (.int p1), .val (.int (1 : Int32)), .unset] [(.int (1 : Int32))])) (fun _ k => XS.iconst X12.here hx rfl (hb hby d1_67)  k) ?_
          refine Dn.by (U' := T12.setTop (mkF m 69 #[.val (.ref o0), .val (.int p1), .val (.int (1 : Int32)), .val (.int (1 : Int32))] [])) (fun _ k => XS.istoreN X12.here hx rfl (hb hby d1_68) rfl (l' := #[.val (.ref o0), .val (.int p1), .val (.int (1 : Int32)), .val (.int (1 : Int32))]) rfl k) ?_
          refine Dn.by (U' := T12.setTop (mkF m 105 #[.val (.ref o0), .val (.int p1), .val (.int (1 : Int32)), .val (.int (1 : Int32))] [])) (fun _ k => XS.goto X12.here hx rfl (pc0 := 69) (pc' := 105) rfl (hb hby d1_69) (by decide) (by decide) k) ?_
          refine Dn.by (U' := T12.setTop (mkF m 106 #[.val (.ref o0), .val (.int p1), .val (.int (1 : Int32)), .val (.int (1 : Int32))] [(.int (1 : Int32))])) (fun _ k => XS.iloadN X12.here hx rfl (hb hby d1_105) rfl k) ?_
          refine Dn.out X12 (v := (some (.int (1 : Int32)))) (fun h => by rw [Bd.returns] at h; cases h) (BodyLoose.notSynchronized Bd) (fun _ hr => retN X12 hx (t := .boolean) Bd.returns (by simp) (hb hby d1_106) hr) (by decide) (by decide) ?_
          rw [e12]
          exact ⟨by simp only [hold, if_neg c3_1, if_neg c9_6, if_pos c15_11, if_pos c64_13], N0, rfl⟩
        ·
          refine Dn.by (U' := T12.setTop (mkF m 72 #[.val (.ref o0), .val (.int p1), .val (.int (1 : Int32)), .unset] [])) (fun _ k => Jvm.RoadKit.acmp (g := (mkF m 64 #[.val (.ref o0), .val (.int p1), .val (.int (1 : Int32)), .unset] [(.ref s_HTML), (.ref o0)])) X12 hx rfl rfl rfl (pc0 := 64) (pc' := 72) (same := false) rfl (hb hby d1_64) rfl (decide_eq_false fun q => c64_13 (Value.ref.inj q)) (by decide) (by decide) k) ?_
          refine Dn.by (U' := T12.setTop (mkF m 73 #[.val (.ref o0), .val (.int p1), .val (.int (1 : Int32)), .unset] [(.ref o0)])) (fun _ k => XS.aloadN X12.here hx rfl (hb hby d1_72) rfl rfl k) ?_
          obtain ⟨T14, X14, e14, st14⟩ := getS2 X12 hx hZ (a0 := a0) hown (host := "") (Or.inl (hw _ (List.mem_of_getElem? (i := 26) rfl))) Via.refl e12 S_XML_1_1 (g := (mkF m 73 #[.val (.ref o0), .val (.int p1), .val (.int (1 : Int32)), .unset] [(.ref o0)])) rfl (hb hby d1_73)
          refine Dn.by (U' := T14.setTop (mkF m 76 #[.val (.ref o0), .val (.int p1), .val (.int (1 : Int32)), .unset] [(.ref s_XML_1_1), (.ref o0)])) st14 ?_
          by_cases c76_15 : o0 = s_XML_1_1
          ·
            refine Dn.by (U' := T14.setTop (mkF m 79 #[.val (.ref o0), .val (.int p1), .val (.int (1 : Int32)), .unset] [])) (fun _ k => Jvm.RoadKit.acmp (g := (mkF m 76 #[.val (.ref o0), .val (.int p1), .val (.int (1 : Int32)), .unset] [(.ref s_XML_1_1), (.ref o0)])) X14 hx rfl rfl rfl (pc0 := 76) (pc' := 79) (same := true) rfl (hb hby d1_76) rfl (decide_eq_true (congrArg Value.ref c76_15)) (by decide) (by decide) k) ?_
            refine Dn.by (U' := T14.setTop (mkF m 80 #[.val (.ref o0), .val (.int p1), .val (.int (1 : Int32)), .unset] [(.int (1 : Int32))])) (fun _ k => XS.iloadN X14.here hx rfl (hb hby d1_79) rfl k) ?_
            refine Dn.by (U' := T14.setTop (mkF m 94 #[.val (.ref o0), .val (.int p1), .val (.int (1 : Int32)), .unset] [])) (fun _ k => XS.ifYes X14.here hx rfl (pc0 := 80) (pc' := 94) rfl (hb hby d1_80) rfl (by decide) (by decide) (by decide) k) ?_
            refine Dn.by (U' := T14.setTop (mkF m 95 #[.val (.ref o0), .val (.int p1), .val (.int (1 : Int32)), .unset] [(.int (1 : Int32))])) (fun _ k => XS.iconst X14.here hx rfl (hb hby d1_94)  k) ?_
            refine Dn.by (U' := T14.setTop (mkF m 99 #[.val (.ref o0), .val (.int p1), .val (.int (1 : Int32)), .unset] [(.int (1 : Int32))])) (fun _ k => XS.goto X14.here hx rfl (pc0 := 95) (pc' := 99) rfl (hb hby d1_95) (by decide) (by decide) k) ?_
            refine Dn.by (U' := T14.setTop (mkF m 100 #[.val (.ref o0), .val (.int p1), .val (.int (1 : Int32)), .val (.int (1 : Int32))] [])) (fun _ k => XS.istoreN X14.here hx rfl (hb hby d1_99) rfl (l' := #[.val (.ref o0), .val (.int p1), .val (.int (1 : Int32)), .val (.int (1 : Int32))]) rfl k) ?_
            refine Dn.by (U' := T14.setTop (mkF m 105 #[.val (.ref o0), .val (.int p1), .val (.int (1 : Int32)), .val (.int (1 : Int32))] [])) (fun _ k => XS.goto X14.here hx rfl (pc0 := 100) (pc' := 105) rfl (hb hby d1_100) (by decide) (by decide) k) ?_
            refine Dn.by (U' := T14.setTop (mkF m 106 #[.val (.ref o0), .val (.int p1), .val (.int (1 : Int32)), .val (.int (1 : Int32))] [(.int (1 : Int32))])) (fun _ k => XS.iloadN X14.here hx rfl (hb hby d1_105) rfl k) ?_
            refine Dn.out X14 (v := (some (.int (1 : Int32)))) (fun h => by rw [Bd.returns] at h; cases h) (BodyLoose.notSynchronized Bd) (fun _ hr => retN X14 hx (t := .boolean) Bd.returns (by simp) (hb hby d1_106) hr) (by decide) (by decide) ?_
            rw [e14]
            exact ⟨by simp only [hold, if_neg c3_1, if_neg c9_6, if_pos c15_11, if_neg c64_13, if_pos c76_15], N0, rfl⟩
          ·
            refine Dn.by (U' := T14.setTop (mkF m 103 #[.val (.ref o0), .val (.int p1), .val (.int (1 : Int32)), .unset] [])) (fun _ k => Jvm.RoadKit.acmp (g := (mkF m 76 #[.val (.ref o0), .val (.int p1), .val (.int (1 : Int32)), .unset] [(.ref s_XML_1_1), (.ref o0)])) X14 hx rfl rfl rfl (pc0 := 76) (pc' := 103) (same := false) rfl (hb hby d1_76) rfl (decide_eq_false fun q => c76_15 (Value.ref.inj q)) (by decide) (by decide) k) ?_
            refine Dn.by (U' := T14.setTop (mkF m 104 #[.val (.ref o0), .val (.int p1), .val (.int (1 : Int32)), .unset] [(.int (1 : Int32))])) (fun _ k => XS.iloadN X14.here hx rfl (hb hby d1_103) rfl k) ?_
            refine Dn.by (U' := T14.setTop (mkF m 105 #[.val (.ref o0), .val (.int p1), .val (.int (1 : Int32)), .val (.int (1 : Int32))] [])) (fun _ k => XS.istoreN X14.here hx rfl (hb hby d1_104) rfl (l' := #[.val (.ref o0), .val (.int p1), .val (.int (1 : Int32)), .val (.int (1 : Int32))]) rfl k) ?_
            refine Dn.by (U' := T14.setTop (mkF m 106 #[.val (.ref o0), .val (.int p1), .val (.int (1 : Int32)), .val (.int (1 : Int32))] [(.int (1 : Int32))])) (fun _ k => XS.iloadN X14.here hx rfl (hb hby d1_105) rfl k) ?_
            refine Dn.out X14 (v := (some (.int (1 : Int32)))) (fun h => by rw [Bd.returns] at h; cases h) (BodyLoose.notSynchronized Bd) (fun _ hr => retN X14 hx (t := .boolean) Bd.returns (by simp) (hb hby d1_106) hr) (by decide) (by decide) ?_
            rw [e14]
            exact ⟨by simp only [hold, if_neg c3_1, if_neg c9_6, if_pos c15_11, if_neg c64_13, if_neg c76_15], N0, rfl⟩
      ·
        refine Dn.by (U' := s₁.setTop (mkF m 18 #[.val (.ref o0), .val (.int p1), .unset, .unset] [])) (fun _ k => XS.icmpNo X0.here hx rfl (hb hby d1_15) rfl (feq c15_11).1 k) ?_
        refine Dn.by (U' := s₁.setTop (mkF m 19 #[.val (.ref o0), .val (.int p1), .unset, .unset] [(.int p1)])) (fun _ k => XS.iloadN X0.here hx rfl (hb hby d1_18) rfl k) ?_
        refine Dn.by (U' := s₁.setTop (mkF m 21 #[.val (.ref o0), .val (.int p1), .unset, .unset] [(.int (32 : Int32)), (.int p1)])) (fun _ k => XS.bipush X0.here hx rfl (hb hby d1_19)  k) ?_
        by_cases c21_16 : p1 < (32 : Int32)
        ·
          refine Dn.by (U' := s₁.setTop (mkF m 30 #[.val (.ref o0), .val (.int p1), .unset, .unset] [])) (fun _ k => XS.icmpYes X0.here hx rfl (pc0 := 21) (pc' := 30) rfl (hb hby d1_21) rfl (tlt c21_16).1 (by decide) (by decide) k) ?_
          refine Dn.by (U' := s₁.setTop (mkF m 31 #[.val (.ref o0), .val (.int p1), .unset, .unset] [(.int p1)])) (fun _ k => XS.iloadN X0.here hx rfl (hb hby d1_30) rfl k) ?_
          refine Dn.by (U' := s₁.setTop (mkF m 33 #[.val (.ref o0), .val (.int p1), .unset, .unset] [(.int (57344 : Int32)), (.int p1)])) (X0.ldcInt hx hown (mvT hZ (hw _ (List.mem_of_getElem? (i := 23) rfl))) (g := (mkF m 31 #[.val (.ref o0), .val (.int p1), .unset, .unset] [(.int p1)])) rfl (hb hby d1_31)) ?_
          by_cases c33_17 : p1 < (57344 : Int32)
          ·
            refine Dn.by (U' := s₁.setTop (mkF m 42 #[.val (.ref o0), .val (.int p1), .unset, .unset] [])) (fun _ k => XS.icmpYes X0.here hx rfl (pc0 := 33) (pc' := 42) rfl (hb hby d1_33) rfl (tlt c33_17).1 (by decide) (by decide) k) ?_
            refine Dn.by (U' := s₁.setTop (mkF m 43 #[.val (.ref o0), .val (.int p1), .unset, .unset] [(.int p1)])) (fun _ k => XS.iloadN X0.here hx rfl (hb hby d1_42) rfl k) ?_
            refine Dn.by (U' := s₁.setTop (mkF m 45 #[.val (.ref o0), .val (.int p1), .unset, .unset] [(.int (65536 : Int32)), (.int p1)])) (X0.ldcInt hx hown (mvT hZ (hw _ (List.mem_of_getElem? (i := 24) rfl))) (g := (mkF m 43 #[.val (.ref o0), .val (.int p1), .unset, .unset] [(.int p1)])) rfl (hb hby d1_43)) ?_
            by_cases c45_18 : p1 < (65536 : Int32)
            ·
              refine Dn.by (U' := s₁.setTop (mkF m 58 #[.val (.ref o0), .val (.int p1), .unset, .unset] [])) (fun _ k => XS.icmpYes X0.here hx rfl (pc0 := 45) (pc' := 58) rfl (hb hby d1_45) rfl (tlt c45_18).1 (by decide) (by decide) k) ?_
              refine Dn.by (U' := s₁.setTop (mkF m 59 #[.val (.ref o0), .val (.int p1), .unset, .unset] [(.int (0 : Int32))])) (fun _ k => XS.iconst X0.here hx rfl (hb hby d1_58)  k) ?_
              refine Dn.by (U' := s₁.setTop (mkF m 60 #[.val (.ref o0), .val (.int p1), .val (.int (0 : Int32)), .unset] [])) (fun _ k => XS.istoreN X0.here hx rfl (hb hby d1_59) rfl (l' := #[.val (.ref o0), .val (.int p1), .val (.int (0 : Int32)), .unset]) rfl k) ?_
              refine Dn.by (U' := s₁.setTop (mkF m 61 #[.val (.ref o0), .val (.int p1), .val (.int (0 : Int32)), .unset] [(.ref o0)])) (fun _ k => XS.aloadN X0.here hx rfl (hb hby d1_60) rfl rfl k) ?_
              obtain ⟨T19, X19, e19, st19⟩ := getS2 X0 hx hZ (a0 := a0) hown (host := "") (Or.inl (hw _ (List.mem_of_getElem? (i := 25) rfl))) Via.refl e0 S_HTML (g := (mkF m 61 #[.val (.ref o0), .val (.int p1), .val (.int (0 : Int32)), .unset] [(.ref o0)])) rfl (hb hby d1_61)
              refine Dn.by (U' := T19.setTop (mkF m 64 #[.val (.ref o0), .val (.int p1), .val (.int (0 : Int32)), .unset] [(.ref s_HTML), (.ref o0)])) st19 ?_
              by_cases c64_20 : o0 = s_HTML
              ·
                refine Dn.by (U' := T19.setTop (mkF m 67 #[.val (.ref o0), .val (.int p1), .val (.int (0 : Int32)), .unset] [])) (fun _ k => Jvm.RoadKit.acmp (g := (mkF m 64 #[.val (.ref o0), .val (.int p1), .val (.int (0 : Int32)), .unset] [(.ref s_HTML), (.ref o0)])) X19 hx rfl rfl rfl (pc0 := 64) (pc' := 67) (same := true) rfl (hb hby d1_64) rfl (decide_eq_true (congrArg Value.ref c64_20)) (by decide) (by decide) k) ?_
                refine Dn.by (U' := T19.setTop (mkF m 68 #[.val (.ref o0), .val (.int p1), .val (.int (0 : Int32)), .unset] [(.int (1 : Int32))])) (fun _ k => XS.iconst X19.here hx rfl (hb hby d1_67)  k) ?_
                refine Dn.by (U' := T19.setTop (mkF m 69 #[.val (.ref o0), .val (.int p1), .val (.int (0 : Int32)), .val (.int (1 : Int32))] [])) (fun _ k => XS.istoreN X19.here hx rfl (hb hby d1_68) rfl (l' := #[.val (.ref o0), .val (.int p1), .val (.int (0 : Int32)), .val (.int (1 : Int32))]) rfl k) ?_
                refine Dn.by (U' := T19.setTop (mkF m 105 #[.val (.ref o0), .val (.int p1), .val (.int (0 : Int32)), .val (.int (1 : Int32))] [])) (fun _ k => XS.goto X19.here hx rfl (pc0 := 69) (pc' := 105) rfl (hb hby d1_69) (by decide) (by decide) k) ?_
                refine Dn.by (U' := T19.setTop (mkF m 106 #[.val (.ref o0), .val (.int p1), .val (.int (0 : Int32)), .val (.int (1 : Int32))] [(.int (1 : Int32))])) (fun _ k => XS.iloadN X19.here hx rfl (hb hby d1_105) rfl k) ?_
                refine Dn.out X19 (v := (some (.int (1 : Int32)))) (fun h => by rw [Bd.returns] at h; cases h) (BodyLoose.notSynchronized Bd) (fun _ hr => retN X19 hx (t := .boolean) Bd.returns (by simp) (hb hby d1_106) hr) (by decide) (by decide) ?_
                rw [e19]
                exact ⟨by simp only [hold, if_neg c3_1, if_neg c9_6, if_neg c15_11, if_pos c21_16, if_pos c33_17, if_pos c45_18, if_pos c64_20], N0, rfl⟩
              ·
                refine Dn.by (U' := T19.setTop (mkF m 72 #[.val (.ref o0), .val (.int p1), .val (.int (0 : Int32)), .unset] [])) (fun _ k => Jvm.RoadKit.acmp (g := (mkF m 64 #[.val (.ref o0), .val (.int p1), .val (.int (0 : Int32)), .unset] [(.ref s_HTML), (.ref o0)])) X19 hx rfl rfl rfl (pc0 := 64) (pc' := 72) (same := false) rfl (hb hby d1_64) rfl (decide_eq_false fun q => c64_20 (Value.ref.inj q)) (by decide) (by decide) k) ?_
                refine Dn.by (U' := T19.setTop (mkF m 73 #[.val (.ref o0), .val (.int p1), .val (.int (0 : Int32)), .unset] [(.ref o0)])) (fun _ k => XS.aloadN X19.here hx rfl (hb hby d1_72) rfl rfl k) ?_
                obtain ⟨T21, X21, e21, st21⟩ := getS2 X19 hx hZ (a0 := a0) hown (host := "") (Or.inl (hw _ (List.mem_of_getElem? (i := 26) rfl))) Via.refl e19 S_XML_1_1 (g := (mkF m 73 #[.val (.ref o0), .val (.int p1), .val (.int (0 : Int32)), .unset] [(.ref o0)])) rfl (hb hby d1_73)
                refine Dn.by (U' := T21.setTop (mkF m 76 #[.val (.ref o0), .val (.int p1), .val (.int (0 : Int32)), .unset] [(.ref s_XML_1_1), (.ref o0)])) st21 ?_
                by_cases c76_22 : o0 = s_XML_1_1
                ·
                  refine Dn.by (U' := T21.setTop (mkF m 79 #[.val (.ref o0), .val (.int p1), .val (.int (0 : Int32)), .unset] [])) (fun _ k => Jvm.RoadKit.acmp (g := (mkF m 76 #[.val (.ref o0), .val (.int p1), .val (.int (0 : Int32)), .unset] [(.ref s_XML_1_1), (.ref o0)])) X21 hx rfl rfl rfl (pc0 := 76) (pc' := 79) (same := true) rfl (hb hby d1_76) rfl (decide_eq_true (congrArg Value.ref c76_22)) (by decide) (by decide) k) ?_
                  refine Dn.by (U' := T21.setTop (mkF m 80 #[.val (.ref o0), .val (.int p1), .val (.int (0 : Int32)), .unset] [(.int (0 : Int32))])) (fun _ k => XS.iloadN X21.here hx rfl (hb hby d1_79) rfl k) ?_
                  refine Dn.by (U' := T21.setTop (mkF m 83 #[.val (.ref o0), .val (.int p1), .val (.int (0 : Int32)), .unset] [])) (fun _ k => XS.ifNo X21.here hx rfl (hb hby d1_80) rfl (by decide) k) ?_
                  refine Dn.by (U' := T21.setTop (mkF m 84 #[.val (.ref o0), .val (.int p1), .val (.int (0 : Int32)), .unset] [(.int p1)])) (fun _ k => XS.iloadN X21.here hx rfl (hb hby d1_83) rfl k) ?_
                  refine Dn.by (U' := T21.setTop (mkF m 85 #[.val (.ref o0), .val (.int p1), .val (.int (0 : Int32)), .unset] [(.int (1 : Int32)), (.int p1)])) (fun _ k => XS.iconst X21.here hx rfl (hb hby d1_84)  k) ?_
                  by_cases c85_23 : p1 < (1 : Int32)
                  ·
                    refine Dn.by (U' := T21.setTop (mkF m 98 #[.val (.ref o0), .val (.int p1), .val (.int (0 : Int32)), .unset] [])) (fun _ k => XS.icmpYes X21.here hx rfl (pc0 := 85) (pc' := 98) rfl (hb hby d1_85) rfl (tlt c85_23).1 (by decide) (by decide) k) ?_
                    refine Dn.by (U' := T21.setTop (mkF m 99 #[.val (.ref o0), .val (.int p1), .val (.int (0 : Int32)), .unset] [(.int (0 : Int32))])) (fun _ k => XS.iconst X21.here hx rfl (hb hby d1_98)  k) ?_
                    refine Dn.by (U' := T21.setTop (mkF m 100 #[.val (.ref o0), .val (.int p1), .val (.int (0 : Int32)), .val (.int (0 : Int32))] [])) (fun _ k => XS.istoreN X21.here hx rfl (hb hby d1_99) rfl (l' := #[.val (.ref o0), .val (.int p1), .val (.int (0 : Int32)), .val (.int (0 : Int32))]) rfl k) ?_
                    refine Dn.by (U' := T21.setTop (mkF m 105 #[.val (.ref o0), .val (.int p1), .val (.int (0 : Int32)), .val (.int (0 : Int32))] [])) (fun _ k => XS.goto X21.here hx rfl (pc0 := 100) (pc' := 105) rfl (hb hby d1_100) (by decide) (by decide) k) ?_
                    refine Dn.by (U' := T21.setTop (mkF m 106 #[.val (.ref o0), .val (.int p1), .val (.int (0 : Int32)), .val (.int (0 : Int32))] [(.int (0 : Int32))])) (fun _ k => XS.iloadN X21.here hx rfl (hb hby d1_105) rfl k) ?_
                    refine Dn.out X21 (v := (some (.int (0 : Int32)))) (fun h => by rw [Bd.returns] at h; cases h) (BodyLoose.notSynchronized Bd) (fun _ hr => retN X21 hx (t := .boolean) Bd.returns (by simp) (hb hby d1_106) hr) (by decide) (by decide) ?_
                    rw [e21]
                    exact ⟨by simp only [hold, if_neg c3_1, if_neg c9_6, if_neg c15_11, if_pos c21_16, if_pos c33_17, if_pos c45_18, if_neg c64_20, if_pos c76_22, if_pos c85_23], N0, rfl⟩
                  ·
                    refine Dn.by (U' := T21.setTop (mkF m 88 #[.val (.ref o0), .val (.int p1), .val (.int (0 : Int32)), .unset] [])) (fun _ k => XS.icmpNo X21.here hx rfl (hb hby d1_85) rfl (flt c85_23).1 k) ?_
                    refine Dn.by (U' := T21.setTop (mkF m 89 #[.val (.ref o0), .val (.int p1), .val (.int (0 : Int32)), .unset] [(.int p1)])) (fun _ k => XS.iloadN X21.here hx rfl (hb hby d1_88) rfl k) ?_
                    refine Dn.by (U' := T21.setTop (mkF m 91 #[.val (.ref o0), .val (.int p1), .val (.int (0 : Int32)), .unset] [(.int (32 : Int32)), (.int p1)])) (fun _ k => XS.bipush X21.here hx rfl (hb hby d1_89)  k) ?_
                    refine Dn.by (U' := T21.setTop (mkF m 94 #[.val (.ref o0), .val (.int p1), .val (.int (0 : Int32)), .unset] [])) (fun _ k => XS.icmpNo X21.here hx rfl (hb hby d1_91) rfl (tlt c21_16).2.1 k) ?_
                    refine Dn.by (U' := T21.setTop (mkF m 95 #[.val (.ref o0), .val (.int p1), .val (.int (0 : Int32)), .unset] [(.int (1 : Int32))])) (fun _ k => XS.iconst X21.here hx rfl (hb hby d1_94)  k) ?_
                    refine Dn.by (U' := T21.setTop (mkF m 99 #[.val (.ref o0), .val (.int p1), .val (.int (0 : Int32)), .unset] [(.int (1 : Int32))])) (fun _ k => XS.goto X21.here hx rfl (pc0 := 95) (pc' := 99) rfl (hb hby d1_95) (by decide) (by decide) k) ?_
                    refine Dn.by (U' := T21.setTop (mkF m 100 #[.val (.ref o0), .val (.int p1), .val (.int (0 : Int32)), .val (.int (1 : Int32))] [])) (fun _ k => XS.istoreN X21.here hx rfl (hb hby d1_99) rfl (l' := #[.val (.ref o0), .val (.int p1), .val (.int (0 : Int32)), .val (.int (1 : Int32))]) rfl k) ?_
                    refine Dn.by (U' := T21.setTop (mkF m 105 #[.val (.ref o0), .val (.int p1), .val (.int (0 : Int32)), .val (.int (1 : Int32))] [])) (fun _ k => XS.goto X21.here hx rfl (pc0 := 100) (pc' := 105) rfl (hb hby d1_100) (by decide) (by decide) k) ?_
                    refine Dn.by (U' := T21.setTop (mkF m 106 #[.val (.ref o0), .val (.int p1), .val (.int (0 : Int32)), .val (.int (1 : Int32))] [(.int (1 : Int32))])) (fun _ k => XS.iloadN X21.here hx rfl (hb hby d1_105) rfl k) ?_
                    refine Dn.out X21 (v := (some (.int (1 : Int32)))) (fun h => by rw [Bd.returns] at h; cases h) (BodyLoose.notSynchronized Bd) (fun _ hr => retN X21 hx (t := .boolean) Bd.returns (by simp) (hb hby d1_106) hr) (by decide) (by decide) ?_
                    rw [e21]
                    exact ⟨by simp only [hold, if_neg c3_1, if_neg c9_6, if_neg c15_11, if_pos c21_16, if_pos c33_17, if_pos c45_18, if_neg c64_20, if_pos c76_22, if_neg c85_23], N0, rfl⟩
                ·
                  refine Dn.by (U' := T21.setTop (mkF m 103 #[.val (.ref o0), .val (.int p1), .val (.int (0 : Int32)), .unset] [])) (fun _ k => Jvm.RoadKit.acmp (g := (mkF m 76 #[.val (.ref o0), .val (.int p1), .val (.int (0 : Int32)), .unset] [(.ref s_XML_1_1), (.ref o0)])) X21 hx rfl rfl rfl (pc0 := 76) (pc' := 103) (same := false) rfl (hb hby d1_76) rfl (decide_eq_false fun q => c76_22 (Value.ref.inj q)) (by decide) (by decide) k) ?_
                  refine Dn.by (U' := T21.setTop (mkF m 104 #[.val (.ref o0), .val (.int p1), .val (.int (0 : Int32)), .unset] [(.int (0 : Int32))])) (fun _ k => XS.iloadN X21.here hx rfl (hb hby d1_103) rfl k) ?_
                  refine Dn.by (U' := T21.setTop (mkF m 105 #[.val (.ref o0), .val (.int p1), .val (.int (0 : Int32)), .val (.int (0 : Int32))] [])) (fun _ k => XS.istoreN X21.here hx rfl (hb hby d1_104) rfl (l' := #[.val (.ref o0), .val (.int p1), .val (.int (0 : Int32)), .val (.int (0 : Int32))]) rfl k) ?_
                  refine Dn.by (U' := T21.setTop (mkF m 106 #[.val (.ref o0), .val (.int p1), .val (.int (0 : Int32)), .val (.int (0 : Int32))] [(.int (0 : Int32))])) (fun _ k => XS.iloadN X21.here hx rfl (hb hby d1_105) rfl k) ?_
                  refine Dn.out X21 (v := (some (.int (0 : Int32)))) (fun h => by rw [Bd.returns] at h; cases h) (BodyLoose.notSynchronized Bd) (fun _ hr => retN X21 hx (t := .boolean) Bd.returns (by simp) (hb hby d1_106) hr) (by decide) (by decide) ?_
                  rw [e21]
                  exact ⟨by simp only [hold, if_neg c3_1, if_neg c9_6, if_neg c15_11, if_pos c21_16, if_pos c33_17, if_pos c45_18, if_neg c64_20, if_neg c76_22], N0, rfl⟩
            ·
              refine Dn.by (U' := s₁.setTop (mkF m 48 #[.val (.ref o0), .val (.int p1), .unset, .unset] [])) (fun _ k => XS.icmpNo X0.here hx rfl (hb hby d1_45) rfl (flt c45_18).1 k) ?_
              refine Dn.by (U' := s₁.setTop (mkF m 49 #[.val (.ref o0), .val (.int p1), .unset, .unset] [(.int p1)])) (fun _ k => XS.iloadN X0.here hx rfl (hb hby d1_48) rfl k) ?_
              refine Dn.by (U' := s₁.setTop (mkF m 51 #[.val (.ref o0), .val (.int p1), .unset, .unset] [(.int (1114111 : Int32)), (.int p1)])) (X0.ldcInt hx hown (mvT hZ (hw _ (List.mem_of_getElem? (i := 33) rfl))) (g := (mkF m 49 #[.val (.ref o0), .val (.int p1), .unset, .unset] [(.int p1)])) rfl (hb hby d1_49)) ?_
              by_cases c51_24 : (1114111 : Int32) < p1
              ·
                refine Dn.by (U' := s₁.setTop (mkF m 58 #[.val (.ref o0), .val (.int p1), .unset, .unset] [])) (fun _ k => XS.icmpYes X0.here hx rfl (pc0 := 51) (pc' := 58) rfl (hb hby d1_51) rfl (tlt c51_24).2.2.1 (by decide) (by decide) k) ?_
                refine Dn.by (U' := s₁.setTop (mkF m 59 #[.val (.ref o0), .val (.int p1), .unset, .unset] [(.int (0 : Int32))])) (fun _ k => XS.iconst X0.here hx rfl (hb hby d1_58)  k) ?_
                refine Dn.by (U' := s₁.setTop (mkF m 60 #[.val (.ref o0), .val (.int p1), .val (.int (0 : Int32)), .unset] [])) (fun _ k => XS.istoreN X0.here hx rfl (hb hby d1_59) rfl (l' := #[.val (.ref o0), .val (.int p1), .val (.int (0 : Int32)), .unset]) rfl k) ?_
                refine Dn.by (U' := s₁.setTop (mkF m 61 #[.val (.ref o0), .val (.int p1), .val (.int (0 : Int32)), .unset] [(.ref o0)])) (fun _ k => XS.aloadN X0.here hx rfl (hb hby d1_60) rfl rfl k) ?_
                obtain ⟨T25, X25, e25, st25⟩ := getS2 X0 hx hZ (a0 := a0) hown (host := "") (Or.inl (hw _ (List.mem_of_getElem? (i := 25) rfl))) Via.refl e0 S_HTML (g := (mkF m 61 #[.val (.ref o0), .val (.int p1), .val (.int (0 : Int32)), .unset] [(.ref o0)])) rfl (hb hby d1_61)
                refine Dn.by (U' := T25.setTop (mkF m 64 #[.val (.ref o0), .val (.int p1), .val (.int (0 : Int32)), .unset] [(.ref s_HTML), (.ref o0)])) st25 ?_
                by_cases c64_26 : o0 = s_HTML
                ·
                  refine Dn.by (U' := T25.setTop (mkF m 67 #[.val (.ref o0), .val (.int p1), .val (.int (0 : Int32)), .unset] [])) (fun _ k => Jvm.RoadKit.acmp (g := (mkF m 64 #[.val (.ref o0), .val (.int p1), .val (.int (0 : Int32)), .unset] [(.ref s_HTML), (.ref o0)])) X25 hx rfl rfl rfl (pc0 := 64) (pc' := 67) (same := true) rfl (hb hby d1_64) rfl (decide_eq_true (congrArg Value.ref c64_26)) (by decide) (by decide) k) ?_
                  refine Dn.by (U' := T25.setTop (mkF m 68 #[.val (.ref o0), .val (.int p1), .val (.int (0 : Int32)), .unset] [(.int (1 : Int32))])) (fun _ k => XS.iconst X25.here hx rfl (hb hby d1_67)  k) ?_
                  refine Dn.by (U' := T25.setTop (mkF m 69 #[.val (.ref o0), .val (.int p1), .val (.int (0 : Int32)), .val (.int (1 : Int32))] [])) (fun _ k => XS.istoreN X25.here hx rfl (hb hby d1_68) rfl (l' := #[.val (.ref o0), .val (.int p1), .val (.int (0 : Int32)), .val (.int (1 : Int32))]) rfl k) ?_
                  refine Dn.by (U' := T25.setTop (mkF m 105 #[.val (.ref o0), .val (.int p1), .val (.int (0 : Int32)), .val (.int (1 : Int32))] [])) (fun _ k => XS.goto X25.here hx rfl (pc0 := 69) (pc' := 105) rfl (hb hby d1_69) (by decide) (by decide) k) ?_
                  refine Dn.by (U' := T25.setTop (mkF m 106 #[.val (.ref o0), .val (.int p1), .val (.int (0 : Int32)), .val (.int (1 : Int32))] [(.int (1 : Int32))])) (fun _ k => XS.iloadN X25.here hx rfl (hb hby d1_105) rfl k) ?_
                  refine Dn.out X25 (v := (some (.int (1 : Int32)))) (fun h => by rw [Bd.returns] at h; cases h) (BodyLoose.notSynchronized Bd) (fun _ hr => retN X25 hx (t := .boolean) Bd.returns (by simp) (hb hby d1_106) hr) (by decide) (by decide) ?_
                  rw [e25]
                  exact ⟨by simp only [hold, if_neg c3_1, if_neg c9_6, if_neg c15_11, if_pos c21_16, if_pos c33_17, if_neg c45_18, if_pos c51_24, if_pos c64_26], N0, rfl⟩
                ·
                  refine Dn.by (U' := T25.setTop (mkF m 72 #[.val (.ref o0), .val (.int p1), .val (.int (0 : Int32)), .unset] [])) (fun _ k => Jvm.RoadKit.acmp (g := (mkF m 64 #[.val (.ref o0), .val (.int p1), .val (.int (0 : Int32)), .unset] [(.ref s_HTML), (.ref o0)])) X25 hx rfl rfl rfl (pc0 := 64) (pc' := 72) (same := false) rfl (hb hby d1_64) rfl (decide_eq_false fun q => c64_26 (Value.ref.inj q)) (by decide) (by decide) k) ?_
                  refine Dn.by (U' := T25.setTop (mkF m 73 #[.val (.ref o0), .val (.int p1), .val (.int (0 : Int32)), .unset] [(.ref o0)])) (fun _ k => XS.aloadN X25.here hx rfl (hb hby d1_72) rfl rfl k) ?_
                  obtain ⟨T27, X27, e27, st27⟩ := getS2 X25 hx hZ (a0 := a0) hown (host := "") (Or.inl (hw _ (List.mem_of_getElem? (i := 26) rfl))) Via.refl e25 S_XML_1_1 (g := (mkF m 73 #[.val (.ref o0), .val (.int p1), .val (.int (0 : Int32)), .unset] [(.ref o0)])) rfl (hb hby d1_73)
                  refine Dn.by (U' := T27.setTop (mkF m 76 #[.val (.ref o0), .val (.int p1), .val (.int (0 : Int32)), .unset] [(.ref s_XML_1_1), (.ref o0)])) st27 ?_
                  by_cases c76_28 : o0 = s_XML_1_1
                  ·
                    refine Dn.by (U' := T27.setTop (mkF m 79 #[.val (.ref o0), .val (.int p1), .val (.int (0 : Int32)), .unset] [])) (fun _ k => Jvm.RoadKit.acmp (g := (mkF m 76 #[.val (.ref o0), .val (.int p1), .val (.int (0 : Int32)), .unset] [(.ref s_XML_1_1), (.ref o0)])) X27 hx rfl rfl rfl (pc0 := 76) (pc' := 79) (same := true) rfl (hb hby d1_76) rfl (decide_eq_true (congrArg Value.ref c76_28)) (by decide) (by decide) k) ?_
                    refine Dn.by (U' := T27.setTop (mkF m 80 #[.val (.ref o0), .val (.int p1), .val (.int (0 : Int32)), .unset] [(.int (0 : Int32))])) (fun _ k => XS.iloadN X27.here hx rfl (hb hby d1_79) rfl k) ?_
                    refine Dn.by (U' := T27.setTop (mkF m 83 #[.val (.ref o0), .val (.int p1), .val (.int (0 : Int32)), .unset] [])) (fun _ k => XS.ifNo X27.here hx rfl (hb hby d1_80) rfl (by decide) k) ?_
                    refine Dn.by (U' := T27.setTop (mkF m 84 #[.val (.ref o0), .val (.int p1), .val (.int (0 : Int32)), .unset] [(.int p1)])) (fun _ k => XS.iloadN X27.here hx rfl (hb hby d1_83) rfl k) ?_
                    refine Dn.by (U' := T27.setTop (mkF m 85 #[.val (.ref o0), .val (.int p1), .val (.int (0 : Int32)), .unset] [(.int (1 : Int32)), (.int p1)])) (fun _ k => XS.iconst X27.here hx rfl (hb hby d1_84)  k) ?_
                    by_cases c85_29 : p1 < (1 : Int32)
                    ·
                      refine Dn.by (U' := T27.setTop (mkF m 98 #[.val (.ref o0), .val (.int p1), .val (.int (0 : Int32)), .unset] [])) (fun _ k => XS.icmpYes X27.here hx rfl (pc0 := 85) (pc' := 98) rfl (hb hby d1_85) rfl (tlt c85_29).1 (by decide) (by decide) k) ?_
                      refine Dn.by (U' := T27.setTop (mkF m 99 #[.val (.ref o0), .val (.int p1), .val (.int (0 : Int32)), .unset] [(.int (0 : Int32))])) (fun _ k => XS.iconst X27.here hx rfl (hb hby d1_98)  k) ?_
                      refine Dn.by (U' := T27.setTop (mkF m 100 #[.val (.ref o0), .val (.int p1), .val (.int (0 : Int32)), .val (.int (0 : Int32))] [])) (fun _ k => XS.istoreN X27.here hx rfl (hb hby d1_99) rfl (l' := #[.val (.ref o0), .val (.int p1), .val (.int (0 : Int32)), .val (.int (0 : Int32))]) rfl k) ?_
                      refine Dn.by (U' := T27.setTop (mkF m 105 #[.val (.ref o0), .val (.int p1), .val (.int (0 : Int32)), .val (.int (0 : Int32))] [])) (fun _ k => XS.goto X27.here hx rfl (pc0 := 100) (pc' := 105) rfl (hb hby d1_100) (by decide) (by decide) k) ?_
                      refine Dn.by (U' := T27.setTop (mkF m 106 #[.val (.ref o0), .val (.int p1), .val (.int (0 : Int32)), .val (.int (0 : Int32))] [(.int (0 : Int32))])) (fun _ k => XS.iloadN X27.here hx rfl (hb hby d1_105) rfl k) ?_
                      refine Dn.out X27 (v := (some (.int (0 : Int32)))) (fun h => by rw [Bd.returns] at h; cases h) (BodyLoose.notSynchronized Bd) (fun _ hr => retN X27 hx (t := .boolean) Bd.returns (by simp) (hb hby d1_106) hr) (by decide) (by decide) ?_
                      rw [e27]
                      exact ⟨by simp only [hold, if_neg c3_1, if_neg c9_6, if_neg c15_11, if_pos c21_16, if_pos c33_17, if_neg c45_18, if_pos c51_24, if_neg c64_26, if_pos c76_28, if_pos c85_29], N0, rfl⟩
                    ·
                      refine Dn.by (U' := T27.setTop (mkF m 88 #[.val (.ref o0), .val (.int p1), .val (.int (0 : Int32)), .unset] [])) (fun _ k => XS.icmpNo X27.here hx rfl (hb hby d1_85) rfl (flt c85_29).1 k) ?_
                      refine Dn.by (U' := T27.setTop (mkF m 89 #[.val (.ref o0), .val (.int p1), .val (.int (0 : Int32)), .unset] [(.int p1)])) (fun _ k => XS.iloadN X27.here hx rfl (hb hby d1_88) rfl k) ?_
                      refine Dn.by (U' := T27.setTop (mkF m 91 #[.val (.ref o0), .val (.int p1), .val (.int (0 : Int32)), .unset] [(.int (32 : Int32)), (.int p1)])) (fun _ k => XS.bipush X27.here hx rfl (hb hby d1_89)  k) ?_
                      refine Dn.by (U' := T27.setTop (mkF m 94 #[.val (.ref o0), .val (.int p1), .val (.int (0 : Int32)), .unset] [])) (fun _ k => XS.icmpNo X27.here hx rfl (hb hby d1_91) rfl (tlt c21_16).2.1 k) ?_
                      refine Dn.by (U' := T27.setTop (mkF m 95 #[.val (.ref o0), .val (.int p1), .val (.int (0 : Int32)), .unset] [(.int (1 : Int32))])) (fun _ k => XS.iconst X27.here hx rfl (hb hby d1_94)  k) ?_
                      refine Dn.by (U' := T27.setTop (mkF m 99 #[.val (.ref o0), .val (.int p1), .val (.int (0 : Int32)), .unset] [(.int (1 : Int32))])) (fun _ k => XS.goto X27.here hx rfl (pc0 := 95) (pc' := 99) rfl (hb hby d1_95) (by decide) (by decide) k) ?_
                      refine Dn.by (U' := T27.setTop (mkF m 100 #[.val (.ref o0), .val (.int p1), .val (.int (0 : Int32)), .val (.int (1 : Int32))] [])) (fun _ k => XS.istoreN X27.here hx rfl (hb hby d1_99) rfl (l' := #[.val (.ref o0), .val (.int p1), .val (.int (0 : Int32)), .val (.int (1 : Int32))]) rfl k) ?_
                      refine Dn.by (U' := T27.setTop (mkF m 105 #[.val (.ref o0), .val (.int p1), .val (.int (0 : Int32)), .val (.int (1 : Int32))] [])) (fun _ k => XS.goto X27.here hx rfl (pc0 := 100) (pc' := 105) rfl (hb hby d1_100) (by decide) (by decide) k) ?_
                      refine Dn.by (U' := T27.setTop (mkF m 106 #[.val (.ref o0), .val (.int p1), .val (.int (0 : Int32)), .val (.int (1 : Int32))] [(.int (1 : Int32))])) (fun _ k => XS.iloadN X27.here hx rfl (hb hby d1_105) rfl k) ?_
                      refine Dn.out X27 (v := (some (.int (1 : Int32)))) (fun h => by rw [Bd.returns] at h; cases h) (BodyLoose.notSynchronized Bd) (fun _ hr => retN X27 hx (t := .boolean) Bd.returns (by simp) (hb hby d1_106) hr) (by decide) (by decide) ?_
                      rw [e27]
                      exact ⟨by simp only [hold, if_neg c3_1, if_neg c9_6, if_neg c15_11, if_pos c21_16, if_pos c33_17, if_neg c45_18, if_pos c51_24, if_neg c64_26, if_pos c76_28, if_neg c85_29], N0, rfl⟩
                  ·
                    refine Dn.by (U' := T27.setTop (mkF m 103 #[.val (.ref o0), .val (.int p1), .val (.int (0 : Int32)), .unset] [])) (fun _ k => Jvm.RoadKit.acmp (g := (mkF m 76 #[.val (.ref o0), .val (.int p1), .val (.int (0 : Int32)), .unset] [(.ref s_XML_1_1), (.ref o0)])) X27 hx rfl rfl rfl (pc0 := 76) (pc' := 103) (same := false) rfl (hb hby d1_76) rfl (decide_eq_false fun q => c76_28 (Value.ref.inj q)) (by decide) (by decide) k) ?_
                    refine Dn.by (U' := T27.setTop (mkF m 104 #[.val (.ref o0), .val (.int p1), .val (.int (0 : Int32)), .unset] [(.int (0 : Int32))])) (fun _ k => XS.iloadN X27.here hx rfl (hb hby d1_103) rfl k) ?_
                    refine Dn.by (U' := T27.setTop (mkF m 105 #[.val (.ref o0), .val (.int p1), .val (.int (0 : Int32)), .val (.int (0 : Int32))] [])) (fun _ k => XS.istoreN X27.here hx rfl (hb hby d1_104) rfl (l' := #[.val (.ref o0), .val (.int p1), .val (.int (0 : Int32)), .val (.int (0 : Int32))]) rfl k) ?_
                    refine Dn.by (U' := T27.setTop (mkF m 106 #[.val (.ref o0), .val (.int p1), .val (.int (0 : Int32)), .val (.int (0 : Int32))] [(.int (0 : Int32))])) (fun _ k => XS.iloadN X27.here hx rfl (hb hby d1_105) rfl k) ?_
                    refine Dn.out X27 (v := (some (.int (0 : Int32)))) (fun h => by rw [Bd.returns] at h; cases h) (BodyLoose.notSynchronized Bd) (fun _ hr => retN X27 hx (t := .boolean) Bd.returns (by simp) (hb hby d1_106) hr) (by decide) (by decide) ?_
                    rw [e27]
                    exact ⟨by simp only [hold, if_neg c3_1, if_neg c9_6, if_neg c15_11, if_pos c21_16, if_pos c33_17, if_neg c45_18, if_pos c51_24, if_neg c64_26, if_neg c76_28], N0, rfl⟩
              ·
                refine Dn.by (U' := s₁.setTop (mkF m 54 #[.val (.ref o0), .val (.int p1), .unset, .unset] [])) (fun _ k => XS.icmpNo X0.here hx rfl (hb hby d1_51) rfl (flt c51_24).2.2.1 k) ?_
                refine Dn.by (U' := s₁.setTop (mkF m 55 #[.val (.ref o0), .val (.int p1), .unset, .unset] [(.int (1 : Int32))])) (fun _ k => XS.iconst X0.here hx rfl (hb hby d1_54)  k) ?_
                refine Dn.by (U' := s₁.setTop (mkF m 59 #[.val (.ref o0), .val (.int p1), .unset, .unset] [(.int (1 : Int32))])) (fun _ k => XS.goto X0.here hx rfl (pc0 := 55) (pc' := 59) rfl (hb hby d1_55) (by decide) (by decide) k) ?_
                refine Dn.by (U' := s₁.setTop (mkF m 60 #[.val (.ref o0), .val (.int p1), .val (.int (1 : Int32)), .unset] [])) (fun _ k => XS.istoreN X0.here hx rfl (hb hby d1_59) rfl (l' := #[.val (.ref o0), .val (.int p1), .val (.int (1 : Int32)), .unset]) rfl k) ?_
                refine Dn.by (U' := s₁.setTop (mkF m 61 #[.val (.ref o0), .val (.int p1), .val (.int (1 : Int32)), .unset] [(.ref o0)])) (fun _ k => XS.aloadN X0.here hx rfl (hb hby d1_60) rfl rfl k) ?_
                obtain ⟨T30, X30, e30, st30⟩ := getS2 X0 hx hZ (a0 := a0) hown (host := "") (Or.inl (hw _ (List.mem_of_getElem? (i := 25) rfl))) Via.refl e0 S_HTML (g := (mkF m 61 #[.val (.ref o0), .val (.int p1), .val (.int (1 : Int32)), .unset] [(.ref o0)])) rfl (hb hby d1_61)
                refine Dn.by (U' := T30.setTop (mkF m 64 #[.val (.ref o0), .val (.int p1), .val (.int (1 : Int32)), .unset] [(.ref s_HTML), (.ref o0)])) st30 ?_
                by_cases c64_31 : o0 = s_HTML
                ·
                  refine Dn.by (U' := T30.setTop (mkF m 67 #[.val (.ref o0), .val (.int p1), .val (.int (1 : Int32)), .unset] [])) (fun _ k => Jvm.RoadKit.acmp (g := (mkF m 64 #[.val (.ref o0), .val (.int p1), .val (.int (1 : Int32)), .unset] [(.ref s_HTML), (.ref o0)])) X30 hx rfl rfl rfl (pc0 := 64) (pc' := 67) (same := true) rfl (hb hby d1_64) rfl (decide_eq_true (congrArg Value.ref c64_31)) (by decide) (by decide) k) ?_
                  refine Dn.by (U' := T30.setTop (mkF m 68 #[.val (.ref o0), .val (.int p1), .val (.int (1 : Int32)), .unset] [(.int (1 : Int32))])) (fun _ k => XS.iconst X30.here hx rfl (hb hby d1_67)  k) ?_
                  refine Dn.by (U' := T30.setTop (mkF m 69 #[.val (.ref o0), .val (.int p1), .val (.int (1 : Int32)), .val (.int (1 : Int32))] [])) (fun _ k => XS.istoreN X30.here hx rfl (hb hby d1_68) rfl (l' := #[.val (.ref o0), .val (.int p1), .val (.int (1 : Int32)), .val (.int (1 : Int32))]) rfl k) ?_
                  refine Dn.by (U' := T30.setTop (mkF m 105 #[.val (.ref o0), .val (.int p1), .val (.int (1 : Int32)), .val (.int (1 : Int32))] [])) (fun _ k => XS.goto X30.here hx rfl (pc0 := 69) (pc' := 105) rfl (hb hby d1_69) (by decide) (by decide) k) ?_
                  refine Dn.by (U' := T30.setTop (mkF m 106 #[.val (.ref o0), .val (.int p1), .val (.int (1 : Int32)), .val (.int (1 : Int32))] [(.int (1 : Int32))])) (fun _ k => XS.iloadN X30.here hx rfl (hb hby d1_105) rfl k) ?_
                  refine Dn.out X30 (v := (some (.int (1 : Int32)))) (fun h => by rw [Bd.returns] at h; cases h) (BodyLoose.notSynchronized Bd) (fun _ hr => retN X30 hx (t := .boolean) Bd.returns (by simp) (hb hby d1_106) hr) (by decide) (by decide) ?_
                  rw [e30]
                  exact ⟨by simp only [hold, if_neg c3_1, if_neg c9_6, if_neg c15_11, if_pos c21_16, if_pos c33_17, if_neg c45_18, if_neg c51_24, if_pos c64_31], N0, rfl⟩
                ·
                  refine Dn.by (U' := T30.setTop (mkF m 72 #[.val (.ref o0), .val (.int p1), .val (.int (1 : Int32)), .unset] [])) (fun _ k => Jvm.RoadKit.acmp (g := (mkF m 64 #[.val (.ref o0), .val (.int p1), .val (.int (1 : Int32)), .unset] [(.ref s_HTML), (.ref o0)])) X30 hx rfl rfl rfl (pc0 := 64) (pc' := 72) (same := false) rfl (hb hby d1_64) rfl (decide_eq_false fun q => c64_31 (Value.ref.inj q)) (by decide) (by decide) k) ?_
                  refine Dn.by (U' := T30.setTop (mkF m 73 #[.val (.ref o0), .val (.int p1), .val (.int (1 : Int32)), .unset] [(.ref o0)])) (fun _ k => XS.aloadN X30.here hx rfl (hb hby d1_72) rfl rfl k) ?_
                  obtain ⟨T32, X32, e32, st32⟩ := getS2 X30 hx hZ (a0 := a0) hown (host := "") (Or.inl (hw _ (List.mem_of_getElem? (i := 26) rfl))) Via.refl e30 S_XML_1_1 (g := (mkF m 73 #[.val (.ref o0), .val (.int p1), .val (.int (1 : Int32)), .unset] [(.ref o0)])) rfl (hb hby d1_73)
                  refine Dn.by (U' := T32.setTop (mkF m 76 #[.val (.ref o0), .val (.int p1), .val (.int (1 : Int32)), .unset] [(.ref s_XML_1_1), (.ref o0)])) st32 ?_
                  by_cases c76_33 : o0 = s_XML_1_1
                  ·
                    refine Dn.by (U' := T32.setTop (mkF m 79 #[.val (.ref o0), .val (.int p1), .val (.int (1 : Int32)), .unset] [])) (fun _ k => Jvm.RoadKit.acmp (g := (mkF m 76 #[.val (.ref o0), .val (.int p1), .val (.int (1 : Int32)), .unset] [(.ref s_XML_1_1), (.ref o0)])) X32 hx rfl rfl rfl (pc0 := 76) (pc' := 79) (same := true) rfl (hb hby d1_76) rfl (decide_eq_true (congrArg Value.ref c76_33)) (by decide) (by decide) k) ?_
                    refine Dn.by (U' := T32.setTop (mkF m 80 #[.val (.ref o0), .val (.int p1), .val (.int (1 : Int32)), .unset] [(.int (1 : Int32))])) (fun _ k => XS.iloadN X32.here hx rfl (hb hby d1_79) rfl k) ?_
                    refine Dn.by (U' := T32.setTop (mkF m 94 #[.val (.ref o0), .val (.int p1), .val (.int (1 : Int32)), .unset] [])) (fun _ k => XS.ifYes X32.here hx rfl (pc0 := 80) (pc' := 94) rfl (hb hby d1_80) rfl (by decide) (by decide) (by decide) k) ?_
                    refine Dn.by (U' := T32.setTop (mkF m 95 #[.val (.ref o0), .val (.int p1), .val (.int (1 : Int32)), .unset] [(.int (1 : Int32))])) (fun _ k => XS.iconst X32.here hx rfl (hb hby d1_94)  k) ?_
                    refine Dn.by (U' := T32.setTop (mkF m 99 #[.val (.ref o0), .val (.int p1), .val (.int (1 : Int32)), .unset] [(.int (1 : Int32))])) (fun _ k => XS.goto X32.here hx rfl (pc0 := 95) (pc' := 99) rfl (hb hby d1_95) (by decide) (by decide) k) ?_
                    refine Dn.by (U' := T32.setTop (mkF m 100 #[.val (.ref o0), .val (.int p1), .val (.int (1 : Int32)), .val (.int (1 : Int32))] [])) (fun _ k => XS.istoreN X32.here hx rfl (hb hby d1_99) rfl (l' := #[.val (.ref o0), .val (.int p1), .val (.int (1 : Int32)), .val (.int (1 : Int32))]) rfl k) ?_
                    refine Dn.by (U' := T32.setTop (mkF m 105 #[.val (.ref o0), .val (.int p1), .val (.int (1 : Int32)), .val (.int (1 : Int32))] [])) (fun _ k => XS.goto X32.here hx rfl (pc0 := 100) (pc' := 105) rfl (hb hby d1_100) (by decide) (by decide) k) ?_
                    refine Dn.by (U' := T32.setTop (mkF m 106 #[.val (.ref o0), .val (.int p1), .val (.int (1 : Int32)), .val (.int (1 : Int32))] [(.int (1 : Int32))])) (fun _ k => XS.iloadN X32.here hx rfl (hb hby d1_105) rfl k) ?_
                    refine Dn.out X32 (v := (some (.int (1 : Int32)))) (fun h => by rw [Bd.returns] at h; cases h) (BodyLoose.notSynchronized Bd) (fun _ hr => retN X32 hx (t := .boolean) Bd.returns (by simp) (hb hby d1_106) hr) (by decide) (by decide) ?_
                    rw [e32]
                    exact ⟨by simp only [hold, if_neg c3_1, if_neg c9_6, if_neg c15_11, if_pos c21_16, if_pos c33_17, if_neg c45_18, if_neg c51_24, if_neg c64_31, if_pos c76_33], N0, rfl⟩
                  ·
                    refine Dn.by (U' := T32.setTop (mkF m 103 #[.val (.ref o0), .val (.int p1), .val (.int (1 : Int32)), .unset] [])) (fun _ k => Jvm.RoadKit.acmp (g := (mkF m 76 #[.val (.ref o0), .val (.int p1), .val (.int (1 : Int32)), .unset] [(.ref s_XML_1_1), (.ref o0)])) X32 hx rfl rfl rfl (pc0 := 76) (pc' := 103) (same := false) rfl (hb hby d1_76) rfl (decide_eq_false fun q => c76_33 (Value.ref.inj q)) (by decide) (by decide) k) ?_
                    refine Dn.by (U' := T32.setTop (mkF m 104 #[.val (.ref o0), .val (.int p1), .val (.int (1 : Int32)), .unset] [(.int (1 : Int32))])) (fun _ k => XS.iloadN X32.here hx rfl (hb hby d1_103) rfl k) ?_
                    refine Dn.by (U' := T32.setTop (mkF m 105 #[.val (.ref o0), .val (.int p1), .val (.int (1 : Int32)), .val (.int (1 : Int32))] [])) (fun _ k => XS.istoreN X32.here hx rfl (hb hby d1_104) rfl (l' := #[.val (.ref o0), .val (.int p1), .val (.int (1 : Int32)), .val (.int (1 : Int32))]) rfl k) ?_
                    refine Dn.by (U' := T32.setTop (mkF m 106 #[.val (.ref o0), .val (.int p1), .val (.int (1 : Int32)), .val (.int (1 : Int32))] [(.int (1 : Int32))])) (fun _ k => XS.iloadN X32.here hx rfl (hb hby d1_105) rfl k) ?_
                    refine Dn.out X32 (v := (some (.int (1 : Int32)))) (fun h => by rw [Bd.returns] at h; cases h) (BodyLoose.notSynchronized Bd) (fun _ hr => retN X32 hx (t := .boolean) Bd.returns (by simp) (hb hby d1_106) hr) (by decide) (by decide) ?_
                    rw [e32]
                    exact ⟨by simp only [hold, if_neg c3_1, if_neg c9_6, if_neg c15_11, if_pos c21_16, if_pos c33_17, if_neg c45_18, if_neg c51_24, if_neg c64_31, if_neg c76_33], N0, rfl⟩
          ·
            refine Dn.by (U' := s₁.setTop (mkF m 36 #[.val (.ref o0), .val (.int p1), .unset, .unset] [])) (fun _ k => XS.icmpNo X0.here hx rfl (hb hby d1_33) rfl (flt c33_17).1 k) ?_
            refine Dn.by (U' := s₁.setTop (mkF m 37 #[.val (.ref o0), .val (.int p1), .unset, .unset] [(.int p1)])) (fun _ k => XS.iloadN X0.here hx rfl (hb hby d1_36) rfl k) ?_
            refine Dn.by (U' := s₁.setTop (mkF m 39 #[.val (.ref o0), .val (.int p1), .unset, .unset] [(.int (65533 : Int32)), (.int p1)])) (X0.ldcInt hx hown (mvT hZ (hw _ (List.mem_of_getElem? (i := 32) rfl))) (g := (mkF m 37 #[.val (.ref o0), .val (.int p1), .unset, .unset] [(.int p1)])) rfl (hb hby d1_37)) ?_
            by_cases c39_34 : (65533 : Int32) < p1
            ·
              refine Dn.by (U' := s₁.setTop (mkF m 42 #[.val (.ref o0), .val (.int p1), .unset, .unset] [])) (fun _ k => XS.icmpNo X0.here hx rfl (hb hby d1_39) rfl (tlt c39_34).2.2.2 k) ?_
              refine Dn.by (U' := s₁.setTop (mkF m 43 #[.val (.ref o0), .val (.int p1), .unset, .unset] [(.int p1)])) (fun _ k => XS.iloadN X0.here hx rfl (hb hby d1_42) rfl k) ?_
              refine Dn.by (U' := s₁.setTop (mkF m 45 #[.val (.ref o0), .val (.int p1), .unset, .unset] [(.int (65536 : Int32)), (.int p1)])) (X0.ldcInt hx hown (mvT hZ (hw _ (List.mem_of_getElem? (i := 24) rfl))) (g := (mkF m 43 #[.val (.ref o0), .val (.int p1), .unset, .unset] [(.int p1)])) rfl (hb hby d1_43)) ?_
              by_cases c45_35 : p1 < (65536 : Int32)
              ·
                refine Dn.by (U' := s₁.setTop (mkF m 58 #[.val (.ref o0), .val (.int p1), .unset, .unset] [])) (fun _ k => XS.icmpYes X0.here hx rfl (pc0 := 45) (pc' := 58) rfl (hb hby d1_45) rfl (tlt c45_35).1 (by decide) (by decide) k) ?_
                refine Dn.by (U' := s₁.setTop (mkF m 59 #[.val (.ref o0), .val (.int p1), .unset, .unset] [(.int (0 : Int32))])) (fun _ k => XS.iconst X0.here hx rfl (hb hby d1_58)  k) ?_
                refine Dn.by (U' := s₁.setTop (mkF m 60 #[.val (.ref o0), .val (.int p1), .val (.int (0 : Int32)), .unset] [])) (fun _ k => XS.istoreN X0.here hx rfl (hb hby d1_59) rfl (l' := #[.val (.ref o0), .val (.int p1), .val (.int (0 : Int32)), .unset]) rfl k) ?_
                refine Dn.by (U' := s₁.setTop (mkF m 61 #[.val (.ref o0), .val (.int p1), .val (.int (0 : Int32)), .unset] [(.ref o0)])) (fun _ k => XS.aloadN X0.here hx rfl (hb hby d1_60) rfl rfl k) ?_
                obtain ⟨T36, X36, e36, st36⟩ := getS2 X0 hx hZ (a0 := a0) hown (host := "") (Or.inl (hw _ (List.mem_of_getElem? (i := 25) rfl))) Via.refl e0 S_HTML (g := (mkF m 61 #[.val (.ref o0), .val (.int p1), .val (.int (0 : Int32)), .unset] [(.ref o0)])) rfl (hb hby d1_61)
                refine Dn.by (U' := T36.setTop (mkF m 64 #[.val (.ref o0), .val (.int p1), .val (.int (0 : Int32)), .unset] [(.ref s_HTML), (.ref o0)])) st36 ?_
                by_cases c64_37 : o0 = s_HTML
                ·
                  refine Dn.by (U' := T36.setTop (mkF m 67 #[.val (.ref o0), .val (.int p1), .val (.int (0 : Int32)), .unset] [])) (fun _ k => Jvm.RoadKit.acmp (g := (mkF m 64 #[.val (.ref o0), .val (.int p1), .val (.int (0 : Int32)), .unset] [(.ref s_HTML), (.ref o0)])) X36 hx rfl rfl rfl (pc0 := 64) (pc' := 67) (same := true) rfl (hb hby d1_64) rfl (decide_eq_true (congrArg Value.ref c64_37)) (by decide) (by decide) k) ?_
                  refine Dn.by (U' := T36.setTop (mkF m 68 #[.val (.ref o0), .val (.int p1), .val (.int (0 : Int32)), .unset] [(.int (1 : Int32))])) (fun _ k => XS.iconst X36.here hx rfl (hb hby d1_67)  k) ?_
                  refine Dn.by (U' := T36.setTop (mkF m 69 #[.val (.ref o0), .val (.int p1), .val (.int (0 : Int32)), .val (.int (1 : Int32))] [])) (fun _ k => XS.istoreN X36.here hx rfl (hb hby d1_68) rfl (l' := #[.val (.ref o0), .val (.int p1), .val (.int (0 : Int32)), .val (.int (1 : Int32))]) rfl k) ?_
                  refine Dn.by (U' := T36.setTop (mkF m 105 #[.val (.ref o0), .val (.int p1), .val (.int (0 : Int32)), .val (.int (1 : Int32))] [])) (fun _ k => XS.goto X36.here hx rfl (pc0 := 69) (pc' := 105) rfl (hb hby d1_69) (by decide) (by decide) k) ?_
                  refine Dn.by (U' := T36.setTop (mkF m 106 #[.val (.ref o0), .val (.int p1), .val (.int (0 : Int32)), .val (.int (1 : Int32))] [(.int (1 : Int32))])) (fun _ k => XS.iloadN X36.here hx rfl (hb hby d1_105) rfl k) ?_
                  refine Dn.out X36 (v := (some (.int (1 : Int32)))) (fun h => by rw [Bd.returns] at h; cases h) (BodyLoose.notSynchronized Bd) (fun _ hr => retN X36 hx (t := .boolean) Bd.returns (by simp) (hb hby d1_106) hr) (by decide) (by decide) ?_
                  rw [e36]
                  exact ⟨by simp only [hold, if_neg c3_1, if_neg c9_6, if_neg c15_11, if_pos c21_16, if_neg c33_17, if_pos c39_34, if_pos c45_35, if_pos c64_37], N0, rfl⟩
                ·
                  refine Dn.by (U' := T36.setTop (mkF m 72 #[.val (.ref o0), .val (.int p1), .val (.int (0 : Int32)), .unset] [])) (fun _ k => Jvm.RoadKit.acmp (g := (mkF m 64 #[.val (.ref o0), .val (.int p1), .val (.int (0 : Int32)), .unset] [(.ref s_HTML), (.ref o0)])) X36 hx rfl rfl rfl (pc0 := 64) (pc' := 72) (same := false) rfl (hb hby d1_64) rfl (decide_eq_false fun q => c64_37 (Value.ref.inj q)) (by decide) (by decide) k) ?_
                  refine Dn.by (U' := T36.setTop (mkF m 73 #[.val (.ref o0), .val (.int p1), .val (.int (0 : Int32)), .unset] [(.ref o0)])) (fun _ k => XS.aloadN X36.here hx rfl (hb hby d1_72) rfl rfl k) ?_
                  obtain ⟨T38, X38, e38, st38⟩ := getS2 X36 hx hZ (a0 := a0) hown (host := "") (Or.inl (hw _ (List.mem_of_getElem? (i := 26) rfl))) Via.refl e36 S_XML_1_1 (g := (mkF m 73 #[.val (.ref o0), .val (.int p1), .val (.int (0 : Int32)), .unset] [(.ref o0)])) rfl (hb hby d1_73)
                  refine Dn.by (U' := T38.setTop (mkF m 76 #[.val (.ref o0), .val (.int p1), .val (.int (0 : Int32)), .unset] [(.ref s_XML_1_1), (.ref o0)])) st38 ?_
                  by_cases c76_39 : o0 = s_XML_1_1
                  ·
                    refine Dn.by (U' := T38.setTop (mkF m 79 #[.val (.ref o0), .val (.int p1), .val (.int (0 : Int32)), .unset] [])) (fun _ k => Jvm.RoadKit.acmp (g := (mkF m 76 #[.val (.ref o0), .val (.int p1), .val (.int (0 : Int32)), .unset] [(.ref s_XML_1_1), (.ref o0)])) X38 hx rfl rfl rfl (pc0 := 76) (pc' := 79) (same := true) rfl (hb hby d1_76) rfl (decide_eq_true (congrArg Value.ref c76_39)) (by decide) (by decide) k) ?_
                    refine Dn.by (U' := T38.setTop (mkF m 80 #[.val (.ref o0), .val (.int p1), .val (.int (0 : Int32)), .unset] [(.int (0 : Int32))])) (fun _ k => XS.iloadN X38.here hx rfl (hb hby d1_79) rfl k) ?_
                    refine Dn.by (U' := T38.setTop (mkF m 83 #[.val (.ref o0), .val (.int p1), .val (.int (0 : Int32)), .unset] [])) (fun _ k => XS.ifNo X38.here hx rfl (hb hby d1_80) rfl (by decide) k) ?_
                    refine Dn.by (U' := T38.setTop (mkF m 84 #[.val (.ref o0), .val (.int p1), .val (.int (0 : Int32)), .unset] [(.int p1)])) (fun _ k => XS.iloadN X38.here hx rfl (hb hby d1_83) rfl k) ?_
                    refine Dn.by (U' := T38.setTop (mkF m 85 #[.val (.ref o0), .val (.int p1), .val (.int (0 : Int32)), .unset] [(.int (1 : Int32)), (.int p1)])) (fun _ k => XS.iconst X38.here hx rfl (hb hby d1_84)  k) ?_
                    by_cases c85_40 : p1 < (1 : Int32)
                    ·
                      refine Dn.by (U' := T38.setTop (mkF m 98 #[.val (.ref o0), .val (.int p1), .val (.int (0 : Int32)), .unset] [])) (fun _ k => XS.icmpYes X38.here hx rfl (pc0 := 85) (pc' := 98) rfl (hb hby d1_85) rfl (tlt c85_40).1 (by decide) (by decide) k) ?_
                      refine Dn.by (U' := T38.setTop (mkF m 99 #[.val (.ref o0), .val (.int p1), .val (.int (0 : Int32)), .unset] [(.int (0 : Int32))])) (fun _ k => XS.iconst X38.here hx rfl (hb hby d1_98)  k) ?_
                      refine Dn.by (U' := T38.setTop (mkF m 100 #[.val (.ref o0), .val (.int p1), .val (.int (0 : Int32)), .val (.int (0 : Int32))] [])) (fun _ k => XS.istoreN X38.here hx rfl (hb hby d1_99) rfl (l' := #[.val (.ref o0), .val (.int p1), .val (.int (0 : Int32)), .val (.int (0 : Int32))]) rfl k) ?_
                      refine Dn.by (U' := T38.setTop (mkF m 105 #[.val (.ref o0), .val (.int p1), .val (.int (0 : Int32)), .val (.int (0 : Int32))] [])) (fun _ k => XS.goto X38.here hx rfl (pc0 := 100) (pc' := 105) rfl (hb hby d1_100) (by decide) (by decide) k) ?_
                      refine Dn.by (U' := T38.setTop (mkF m 106 #[.val (.ref o0), .val (.int p1), .val (.int (0 : Int32)), .val (.int (0 : Int32))] [(.int (0 : Int32))])) (fun _ k => XS.iloadN X38.here hx rfl (hb hby d1_105) rfl k) ?_
                      refine Dn.out X38 (v := (some (.int (0 : Int32)))) (fun h => by rw [Bd.returns] at h; cases h) (BodyLoose.notSynchronized Bd) (fun _ hr => retN X38 hx (t := .boolean) Bd.returns (by simp) (hb hby d1_106) hr) (by decide) (by decide) ?_
                      rw [e38]
                      exact ⟨by simp only [hold, if_neg c3_1, if_neg c9_6, if_neg c15_11, if_pos c21_16, if_neg c33_17, if_pos c39_34, if_pos c45_35, if_neg c64_37, if_pos c76_39, if_pos c85_40], N0, rfl⟩
                    ·
                      refine Dn.by (U' := T38.setTop (mkF m 88 #[.val (.ref o0), .val (.int p1), .val (.int (0 : Int32)), .unset] [])) (fun _ k => XS.icmpNo X38.here hx rfl (hb hby d1_85) rfl (flt c85_40).1 k) ?_
                      refine Dn.by (U' := T38.setTop (mkF m 89 #[.val (.ref o0), .val (.int p1), .val (.int (0 : Int32)), .unset] [(.int p1)])) (fun _ k => XS.iloadN X38.here hx rfl (hb hby d1_88) rfl k) ?_
                      refine Dn.by (U' := T38.setTop (mkF m 91 #[.val (.ref o0), .val (.int p1), .val (.int (0 : Int32)), .unset] [(.int (32 : Int32)), (.int p1)])) (fun _ k => XS.bipush X38.here hx rfl (hb hby d1_89)  k) ?_
                      refine Dn.by (U' := T38.setTop (mkF m 94 #[.val (.ref o0), .val (.int p1), .val (.int (0 : Int32)), .unset] [])) (fun _ k => XS.icmpNo X38.here hx rfl (hb hby d1_91) rfl (tlt c21_16).2.1 k) ?_
                      refine Dn.by (U' := T38.setTop (mkF m 95 #[.val (.ref o0), .val (.int p1), .val (.int (0 : Int32)), .unset] [(.int (1 : Int32))])) (fun _ k => XS.iconst X38.here hx rfl (hb hby d1_94)  k) ?_
                      refine Dn.by (U' := T38.setTop (mkF m 99 #[.val (.ref o0), .val (.int p1), .val (.int (0 : Int32)), .unset] [(.int (1 : Int32))])) (fun _ k => XS.goto X38.here hx rfl (pc0 := 95) (pc' := 99) rfl (hb hby d1_95) (by decide) (by decide) k) ?_
                      refine Dn.by (U' := T38.setTop (mkF m 100 #[.val (.ref o0), .val (.int p1), .val (.int (0 : Int32)), .val (.int (1 : Int32))] [])) (fun _ k => XS.istoreN X38.here hx rfl (hb hby d1_99) rfl (l' := #[.val (.ref o0), .val (.int p1), .val (.int (0 : Int32)), .val (.int (1 : Int32))]) rfl k) ?_
                      refine Dn.by (U' := T38.setTop (mkF m 105 #[.val (.ref o0), .val (.int p1), .val (.int (0 : Int32)), .val (.int (1 : Int32))] [])) (fun _ k => XS.goto X38.here hx rfl (pc0 := 100) (pc' := 105) rfl (hb hby d1_100) (by decide) (by decide) k) ?_
                      refine Dn.by (U' := T38.setTop (mkF m 106 #[.val (.ref o0), .val (.int p1), .val (.int (0 : Int32)), .val (.int (1 : Int32))] [(.int (1 : Int32))])) (fun _ k => XS.iloadN X38.here hx rfl (hb hby d1_105) rfl k) ?_
                      refine Dn.out X38 (v := (some (.int (1 : Int32)))) (fun h => by rw [Bd.returns] at h; cases h) (BodyLoose.notSynchronized Bd) (fun _ hr => retN X38 hx (t := .boolean) Bd.returns (by simp) (hb hby d1_106) hr) (by decide) (by decide) ?_
                      rw [e38]
                      exact ⟨by simp only [hold, if_neg c3_1, if_neg c9_6, if_neg c15_11, if_pos c21_16, if_neg c33_17, if_pos c39_34, if_pos c45_35, if_neg c64_37, if_pos c76_39, if_neg c85_40], N0, rfl⟩
                  ·
                    refine Dn.by (U' := T38.setTop (mkF m 103 #[.val (.ref o0), .val (.int p1), .val (.int (0 : Int32)), .unset] [])) (fun _ k => Jvm.RoadKit.acmp (g := (mkF m 76 #[.val (.ref o0), .val (.int p1), .val (.int (0 : Int32)), .unset] [(.ref s_XML_1_1), (.ref o0)])) X38 hx rfl rfl rfl (pc0 := 76) (pc' := 103) (same := false) rfl (hb hby d1_76) rfl (decide_eq_false fun q => c76_39 (Value.ref.inj q)) (by decide) (by decide) k) ?_
                    refine Dn.by (U' := T38.setTop (mkF m 104 #[.val (.ref o0), .val (.int p1), .val (.int (0 : Int32)), .unset] [(.int (0 : Int32))])) (fun _ k => XS.iloadN X38.here hx rfl (hb hby d1_103) rfl k) ?_
                    refine Dn.by (U' := T38.setTop (mkF m 105 #[.val (.ref o0), .val (.int p1), .val (.int (0 : Int32)), .val (.int (0 : Int32))] [])) (fun _ k => XS.istoreN X38.here hx rfl (hb hby d1_104) rfl (l' := #[.val (.ref o0), .val (.int p1), .val (.int (0 : Int32)), .val (.int (0 : Int32))]) rfl k) ?_
                    refine Dn.by (U' := T38.setTop (mkF m 106 #[.val (.ref o0), .val (.int p1), .val (.int (0 : Int32)), .val (.int (0 : Int32))] [(.int (0 : Int32))])) (fun _ k => XS.iloadN X38.here hx rfl (hb hby d1_105) rfl k) ?_
                    refine Dn.out X38 (v := (some (.int (0 : Int32)))) (fun h => by rw [Bd.returns] at h; cases h) (BodyLoose.notSynchronized Bd) (fun _ hr => retN X38 hx (t := .boolean) Bd.returns (by simp) (hb hby d1_106) hr) (by decide) (by decide) ?_
                    rw [e38]
                    exact ⟨by simp only [hold, if_neg c3_1, if_neg c9_6, if_neg c15_11, if_pos c21_16, if_neg c33_17, if_pos c39_34, if_pos c45_35, if_neg c64_37, if_neg c76_39], N0, rfl⟩
              ·
                refine Dn.by (U' := s₁.setTop (mkF m 48 #[.val (.ref o0), .val (.int p1), .unset, .unset] [])) (fun _ k => XS.icmpNo X0.here hx rfl (hb hby d1_45) rfl (flt c45_35).1 k) ?_
                refine Dn.by (U' := s₁.setTop (mkF m 49 #[.val (.ref o0), .val (.int p1), .unset, .unset] [(.int p1)])) (fun _ k => XS.iloadN X0.here hx rfl (hb hby d1_48) rfl k) ?_
                refine Dn.by (U' := s₁.setTop (mkF m 51 #[.val (.ref o0), .val (.int p1), .unset, .unset] [(.int (1114111 : Int32)), (.int p1)])) (X0.ldcInt hx hown (mvT hZ (hw _ (List.mem_of_getElem? (i := 33) rfl))) (g := (mkF m 49 #[.val (.ref o0), .val (.int p1), .unset, .unset] [(.int p1)])) rfl (hb hby d1_49)) ?_
                by_cases c51_41 : (1114111 : Int32) < p1
                ·
                  refine Dn.by (U' := s₁.setTop (mkF m 58 #[.val (.ref o0), .val (.int p1), .unset, .unset] [])) (fun _ k => XS.icmpYes X0.here hx rfl (pc0 := 51) (pc' := 58) rfl (hb hby d1_51) rfl (tlt c51_41).2.2.1 (by decide) (by decide) k) ?_
                  refine Dn.by (U' := s₁.setTop (mkF m 59 #[.val (.ref o0), .val (.int p1), .unset, .unset] [(.int (0 : Int32))])) (fun _ k => XS.iconst X0.here hx rfl (hb hby d1_58)  k) ?_
                  refine Dn.by (U' := s₁.setTop (mkF m 60 #[.val (.ref o0), .val (.int p1), .val (.int (0 : Int32)), .unset] [])) (fun _ k => XS.istoreN X0.here hx rfl (hb hby d1_59) rfl (l' := #[.val (.ref o0), .val (.int p1), .val (.int (0 : Int32)), .unset]) rfl k) ?_
                  refine Dn.by (U' := s₁.setTop (mkF m 61 #[.val (.ref o0), .val (.int p1), .val (.int (0 : Int32)), .unset] [(.ref o0)])) (fun _ k => XS.aloadN X0.here hx rfl (hb hby d1_60) rfl rfl k) ?_
                  obtain ⟨T42, X42, e42, st42⟩ := getS2 X0 hx hZ (a0 := a0) hown (host := "") (Or.inl (hw _ (List.mem_of_getElem? (i := 25) rfl))) Via.refl e0 S_HTML (g := (mkF m 61 #[.val (.ref o0), .val (.int p1), .val (.int (0 : Int32)), .unset] [(.ref o0)])) rfl (hb hby d1_61)
                  refine Dn.by (U' := T42.setTop (mkF m 64 #[.val (.ref o0), .val (.int p1), .val (.int (0 : Int32)), .unset] [(.ref s_HTML), (.ref o0)])) st42 ?_
                  by_cases c64_43 : o0 = s_HTML
                  ·
                    refine Dn.by (U' := T42.setTop (mkF m 67 #[.val (.ref o0), .val (.int p1), .val (.int (0 : Int32)), .unset] [])) (fun _ k => Jvm.RoadKit.acmp (g := (mkF m 64 #[.val (.ref o0), .val (.int p1), .val (.int (0 : Int32)), .unset] [(.ref s_HTML), (.ref o0)])) X42 hx rfl rfl rfl (pc0 := 64) (pc' := 67) (same := true) rfl (hb hby d1_64) rfl (decide_eq_true (congrArg Value.ref c64_43)) (by decide) (by decide) k) ?_
                    refine Dn.by (U' := T42.setTop (mkF m 68 #[.val (.ref o0), .val (.int p1), .val (.int (0 : Int32)), .unset] [(.int (1 : Int32))])) (fun _ k => XS.iconst X42.here hx rfl (hb hby d1_67)  k) ?_
                    refine Dn.by (U' := T42.setTop (mkF m 69 #[.val (.ref o0), .val (.int p1), .val (.int (0 : Int32)), .val (.int (1 : Int32))] [])) (fun _ k => XS.istoreN X42.here hx rfl (hb hby d1_68) rfl (l' := #[.val (.ref o0), .val (.int p1), .val (.int (0 : Int32)), .val (.int (1 : Int32))]) rfl k) ?_
                    refine Dn.by (U' := T42.setTop (mkF m 105 #[.val (.ref o0), .val (.int p1), .val (.int (0 : Int32)), .val (.int (1 : Int32))] [])) (fun _ k => XS.goto X42.here hx rfl (pc0 := 69) (pc' := 105) rfl (hb hby d1_69) (by decide) (by decide) k) ?_
                    refine Dn.by (U' := T42.setTop (mkF m 106 #[.val (.ref o0), .val (.int p1), .val (.int (0 : Int32)), .val (.int (1 : Int32))] [(.int (1 : Int32))])) (fun _ k => XS.iloadN X42.here hx rfl (hb hby d1_105) rfl k) ?_
                    refine Dn.out X42 (v := (some (.int (1 : Int32)))) (fun h => by rw [Bd.returns] at h; cases h) (BodyLoose.notSynchronized Bd) (fun _ hr => retN X42 hx (t := .boolean) Bd.returns (by simp) (hb hby d1_106) hr) (by decide) (by decide) ?_
                    rw [e42]
                    exact ⟨by simp only [hold, if_neg c3_1, if_neg c9_6, if_neg c15_11, if_pos c21_16, if_neg c33_17, if_pos c39_34, if_neg c45_35, if_pos c51_41, if_pos c64_43], N0, rfl⟩
                  ·
                    refine Dn.by (U' := T42.setTop (mkF m 72 #[.val (.ref o0), .val (.int p1), .val (.int (0 : Int32)), .unset] [])) (fun _ k => Jvm.RoadKit.acmp (g := (mkF m 64 #[.val (.ref o0), .val (.int p1), .val (.int (0 : Int32)), .unset] [(.ref s_HTML), (.ref o0)])) X42 hx rfl rfl rfl (pc0 := 64) (pc' := 72) (same := false) rfl (hb hby d1_64) rfl (decide_eq_false fun q => c64_43 (Value.ref.inj q)) (by decide) (by decide) k) ?_
                    refine Dn.by (U' := T42.setTop (mkF m 73 #[.val (.ref o0), .val (.int p1), .val (.int (0 : Int32)), .unset] [(.ref o0)])) (fun _ k => XS.aloadN X42.here hx rfl (hb hby d1_72) rfl rfl k) ?_
                    obtain ⟨T44, X44, e44, st44⟩ := getS2 X42 hx hZ (a0 := a0) hown (host := "") (Or.inl (hw _ (List.mem_of_getElem? (i := 26) rfl))) Via.refl e42 S_XML_1_1 (g := (mkF m 73 #[.val (.ref o0), .val (.int p1), .val (.int (0 : Int32)), .unset] [(.ref o0)])) rfl (hb hby d1_73)
                    refine Dn.by (U' := T44.setTop (mkF m 76 #[.val (.ref o0), .val (.int p1), .val (.int (0 : Int32)), .unset] [(.ref s_XML_1_1), (.ref o0)])) st44 ?_
                    by_cases c76_45 : o0 = s_XML_1_1
                    ·
                      refine Dn.by (U' := T44.setTop (mkF m 79 #[.val (.ref o0), .val (.int p1), .val (.int (0 : Int32)), .unset] [])) (fun _ k => Jvm.RoadKit.acmp (g := (mkF m 76 #[.val (.ref o0), .val (.int p1), .val (.int (0 : Int32)), .unset] [(.ref s_XML_1_1), (.ref o0)])) X44 hx rfl rfl rfl (pc0 := 76) (pc' := 79) (same := true) rfl (hb hby d1_76) rfl (decide_eq_true (congrArg Value.ref c76_45)) (by decide) (by decide) k) ?_
                      refine Dn.by (U' := T44.setTop (mkF m 80 #[.val (.ref o0), .val (.int p1), .val (.int (0 : Int32)), .unset] [(.int (0 : Int32))])) (fun _ k => XS.iloadN X44.here hx rfl (hb hby d1_79) rfl k) ?_
                      refine Dn.by (U' := T44.setTop (mkF m 83 #[.val (.ref o0), .val (.int p1), .val (.int (0 : Int32)), .unset] [])) (fun _ k => XS.ifNo X44.here hx rfl (hb hby d1_80) rfl (by decide) k) ?_
                      refine Dn.by (U' := T44.setTop (mkF m 84 #[.val (.ref o0), .val (.int p1), .val (.int (0 : Int32)), .unset] [(.int p1)])) (fun _ k => XS.iloadN X44.here hx rfl (hb hby d1_83) rfl k) ?_
                      refine Dn.by (U' := T44.setTop (mkF m 85 #[.val (.ref o0), .val (.int p1), .val (.int (0 : Int32)), .unset] [(.int (1 : Int32)), (.int p1)])) (fun _ k => XS.iconst X44.here hx rfl (hb hby d1_84)  k) ?_
                      by_cases c85_46 : p1 < (1 : Int32)
                      ·
                        refine Dn.by (U' := T44.setTop (mkF m 98 #[.val (.ref o0), .val (.int p1), .val (.int (0 : Int32)), .unset] [])) (fun _ k => XS.icmpYes X44.here hx rfl (pc0 := 85) (pc' := 98) rfl (hb hby d1_85) rfl (tlt c85_46).1 (by decide) (by decide) k) ?_
                        refine Dn.by (U' := T44.setTop (mkF m 99 #[.val (.ref o0), .val (.int p1), .val (.int (0 : Int32)), .unset] [(.int (0 : Int32))])) (fun _ k => XS.iconst X44.here hx rfl (hb hby d1_98)  k) ?_
                        refine Dn.by (U' := T44.setTop (mkF m 100 #[.val (.ref o0), .val (.int p1), .val (.int (0 : Int32)), .val (.int (0 : Int32))] [])) (fun _ k => XS.istoreN X44.here hx rfl (hb hby d1_99) rfl (l' := #[.val (.ref o0), .val (.int p1), .val (.int (0 : Int32)), .val (.int (0 : Int32))]) rfl k) ?_
                        refine Dn.by (U' := T44.setTop (mkF m 105 #[.val (.ref o0), .val (.int p1), .val (.int (0 : Int32)), .val (.int (0 : Int32))] [])) (fun _ k => XS.goto X44.here hx rfl (pc0 := 100) (pc' := 105) rfl (hb hby d1_100) (by decide) (by decide) k) ?_
                        refine Dn.by (U' := T44.setTop (mkF m 106 #[.val (.ref o0), .val (.int p1), .val (.int (0 : Int32)), .val (.int (0 : Int32))] [(.int (0 : Int32))])) (fun _ k => XS.iloadN X44.here hx rfl (hb hby d1_105) rfl k) ?_
                        refine Dn.out X44 (v := (some (.int (0 : Int32)))) (fun h => by rw [Bd.returns] at h; cases h) (BodyLoose.notSynchronized Bd) (fun _ hr => retN X44 hx (t := .boolean) Bd.returns (by simp) (hb hby d1_106) hr) (by decide) (by decide) ?_
                        rw [e44]
                        exact ⟨by simp only [hold, if_neg c3_1, if_neg c9_6, if_neg c15_11, if_pos c21_16, if_neg c33_17, if_pos c39_34, if_neg c45_35, if_pos c51_41, if_neg c64_43, if_pos c76_45, if_pos c85_46], N0, rfl⟩
                      ·
                        refine Dn.by (U' := T44.setTop (mkF m 88 #[.val (.ref o0), .val (.int p1), .val (.int (0 : Int32)), .unset] [])) (fun _ k => XS.icmpNo X44.here hx rfl (hb hby d1_85) rfl (flt c85_46).1 k) ?_
                        refine Dn.by (U' := T44.setTop (mkF m 89 #[.val (.ref o0), .val (.int p1), .val (.int (0 : Int32)), .unset] [(.int p1)])) (fun _ k => XS.iloadN X44.here hx rfl (hb hby d1_88) rfl k) ?_
                        refine Dn.by (U' := T44.setTop (mkF m 91 #[.val (.ref o0), .val (.int p1), .val (.int (0 : Int32)), .unset] [(.int (32 : Int32)), (.int p1)])) (fun _ k => XS.bipush X44.here hx rfl (hb hby d1_89)  k) ?_
                        refine Dn.by (U' := T44.setTop (mkF m 94 #[.val (.ref o0), .val (.int p1), .val (.int (0 : Int32)), .unset] [])) (fun _ k => XS.icmpNo X44.here hx rfl (hb hby d1_91) rfl (tlt c21_16).2.1 k) ?_
                        refine Dn.by (U' := T44.setTop (mkF m 95 #[.val (.ref o0), .val (.int p1), .val (.int (0 : Int32)), .unset] [(.int (1 : Int32))])) (fun _ k => XS.iconst X44.here hx rfl (hb hby d1_94)  k) ?_
                        refine Dn.by (U' := T44.setTop (mkF m 99 #[.val (.ref o0), .val (.int p1), .val (.int (0 : Int32)), .unset] [(.int (1 : Int32))])) (fun _ k => XS.goto X44.here hx rfl (pc0 := 95) (pc' := 99) rfl (hb hby d1_95) (by decide) (by decide) k) ?_
                        refine Dn.by (U' := T44.setTop (mkF m 100 #[.val (.ref o0), .val (.int p1), .val (.int (0 : Int32)), .val (.int (1 : Int32))] [])) (fun _ k => XS.istoreN X44.here hx rfl (hb hby d1_99) rfl (l' := #[.val (.ref o0), .val (.int p1), .val (.int (0 : Int32)), .val (.int (1 : Int32))]) rfl k) ?_
                        refine Dn.by (U' := T44.setTop (mkF m 105 #[.val (.ref o0), .val (.int p1), .val (.int (0 : Int32)), .val (.int (1 : Int32))] [])) (fun _ k => XS.goto X44.here hx rfl (pc0 := 100) (pc' := 105) rfl (hb hby d1_100) (by decide) (by decide) k) ?_
                        refine Dn.by (U' := T44.setTop (mkF m 106 #[.val (.ref o0), .val (.int p1), .val (.int (0 : Int32)), .val (.int (1 : Int32))] [(.int (1 : Int32))])) (fun _ k => XS.iloadN X44.here hx rfl (hb hby d1_105) rfl k) ?_
                        refine Dn.out X44 (v := (some (.int (1 : Int32)))) (fun h => by rw [Bd.returns] at h; cases h) (BodyLoose.notSynchronized Bd) (fun _ hr => retN X44 hx (t := .boolean) Bd.returns (by simp) (hb hby d1_106) hr) (by decide) (by decide) ?_
                        rw [e44]
                        exact ⟨by simp only [hold, if_neg c3_1, if_neg c9_6, if_neg c15_11, if_pos c21_16, if_neg c33_17, if_pos c39_34, if_neg c45_35, if_pos c51_41, if_neg c64_43, if_pos c76_45, if_neg c85_46], N0, rfl⟩
                    ·
                      refine Dn.by (U' := T44.setTop (mkF m 103 #[.val (.ref o0), .val (.int p1), .val (.int (0 : Int32)), .unset] [])) (fun _ k => Jvm.RoadKit.acmp (g := (mkF m 76 #[.val (.ref o0), .val (.int p1), .val (.int (0 : Int32)), .unset] [(.ref s_XML_1_1), (.ref o0)])) X44 hx rfl rfl rfl (pc0 := 76) (pc' := 103) (same := false) rfl (hb hby d1_76) rfl (decide_eq_false fun q => c76_45 (Value.ref.inj q)) (by decide) (by decide) k) ?_
                      refine Dn.by (U' := T44.setTop (mkF m 104 #[.val (.ref o0), .val (.int p1), .val (.int (0 : Int32)), .unset] [(.int (0 : Int32))])) (fun _ k => XS.iloadN X44.here hx rfl (hb hby d1_103) rfl k) ?_
                      refine Dn.by (U' := T44.setTop (mkF m 105 #[.val (.ref o0), .val (.int p1), .val (.int (0 : Int32)), .val (.int (0 : Int32))] [])) (fun _ k => XS.istoreN X44.here hx rfl (hb hby d1_104) rfl (l' := #[.val (.ref o0), .val (.int p1), .val (.int (0 : Int32)), .val (.int (0 : Int32))]) rfl k) ?_
                      refine Dn.by (U' := T44.setTop (mkF m 106 #[.val (.ref o0), .val (.int p1), .val (.int (0 : Int32)), .val (.int (0 : Int32))] [(.int (0 : Int32))])) (fun _ k => XS.iloadN X44.here hx rfl (hb hby d1_105) rfl k) ?_
                      refine Dn.out X44 (v := (some (.int (0 : Int32)))) (fun h => by rw [Bd.returns] at h; cases h) (BodyLoose.notSynchronized Bd) (fun _ hr => retN X44 hx (t := .boolean) Bd.returns (by simp) (hb hby d1_106) hr) (by decide) (by decide) ?_
                      rw [e44]
                      exact ⟨by simp only [hold, if_neg c3_1, if_neg c9_6, if_neg c15_11, if_pos c21_16, if_neg c33_17, if_pos c39_34, if_neg c45_35, if_pos c51_41, if_neg c64_43, if_neg c76_45], N0, rfl⟩
                ·
                  refine Dn.by (U' := s₁.setTop (mkF m 54 #[.val (.ref o0), .val (.int p1), .unset, .unset] [])) (fun _ k => XS.icmpNo X0.here hx rfl (hb hby d1_51) rfl (flt c51_41).2.2.1 k) ?_
                  refine Dn.by (U' := s₁.setTop (mkF m 55 #[.val (.ref o0), .val (.int p1), .unset, .unset] [(.int (1 : Int32))])) (fun _ k => XS.iconst X0.here hx rfl (hb hby d1_54)  k) ?_
                  refine Dn.by (U' := s₁.setTop (mkF m 59 #[.val (.ref o0), .val (.int p1), .unset, .unset] [(.int (1 : Int32))])) (fun _ k => XS.goto X0.here hx rfl (pc0 := 55) (pc' := 59) rfl (hb hby d1_55) (by decide) (by decide) k) ?_
                  refine Dn.by (U' := s₁.setTop (mkF m 60 #[.val (.ref o0), .val (.int p1), .val (.int (1 : Int32)), .unset] [])) (fun _ k => XS.istoreN X0.here hx rfl (hb hby d1_59) rfl (l' := #[.val (.ref o0), .val (.int p1), .val (.int (1 : Int32)), .unset]) rfl k) ?_
                  refine Dn.by (U' := s₁.setTop (mkF m 61 #[.val (.ref o0), .val (.int p1), .val (.int (1 : Int32)), .unset] [(.ref o0)])) (fun _ k => XS.aloadN X0.here hx rfl (hb hby d1_60) rfl rfl k) ?_
                  obtain ⟨T47, X47, e47, st47⟩ := getS2 X0 hx hZ (a0 := a0) hown (host := "") (Or.inl (hw _ (List.mem_of_getElem? (i := 25) rfl))) Via.refl e0 S_HTML (g := (mkF m 61 #[.val (.ref o0), .val (.int p1), .val (.int (1 : Int32)), .unset] [(.ref o0)])) rfl (hb hby d1_61)
                  refine Dn.by (U' := T47.setTop (mkF m 64 #[.val (.ref o0), .val (.int p1), .val (.int (1 : Int32)), .unset] [(.ref s_HTML), (.ref o0)])) st47 ?_
                  by_cases c64_48 : o0 = s_HTML
                  ·
                    refine Dn.by (U' := T47.setTop (mkF m 67 #[.val (.ref o0), .val (.int p1), .val (.int (1 : Int32)), .unset] [])) (fun _ k => Jvm.RoadKit.acmp (g := (mkF m 64 #[.val (.ref o0), .val (.int p1), .val (.int (1 : Int32)), .unset] [(.ref s_HTML), (.ref o0)])) X47 hx rfl rfl rfl (pc0 := 64) (pc' := 67) (same := true) rfl (hb hby d1_64) rfl (decide_eq_true (congrArg Value.ref c64_48)) (by decide) (by decide) k) ?_
                    refine Dn.by (U' := T47.setTop (mkF m 68 #[.val (.ref o0), .val (.int p1), .val (.int (1 : Int32)), .unset] [(.int (1 : Int32))])) (fun _ k => XS.iconst X47.here hx rfl (hb hby d1_67)  k) ?_
                    refine Dn.by (U' := T47.setTop (mkF m 69 #[.val (.ref o0), .val (.int p1), .val (.int (1 : Int32)), .val (.int (1 : Int32))] [])) (fun _ k => XS.istoreN X47.here hx rfl (hb hby d1_68) rfl (l' := #[.val (.ref o0), .val (.int p1), .val (.int (1 : Int32)), .val (.int (1 : Int32))]) rfl k) ?_
                    refine Dn.by (U' := T47.setTop (mkF m 105 #[.val (.ref o0), .val (.int p1), .val (.int (1 : Int32)), .val (.int (1 : Int32))] [])) (fun _ k => XS.goto X47.here hx rfl (pc0 := 69) (pc' := 105) rfl (hb hby d1_69) (by decide) (by decide) k) ?_
                    refine Dn.by (U' := T47.setTop (mkF m 106 #[.val (.ref o0), .val (.int p1), .val (.int (1 : Int32)), .val (.int (1 : Int32))] [(.int (1 : Int32))])) (fun _ k => XS.iloadN X47.here hx rfl (hb hby d1_105) rfl k) ?_
                    refine Dn.out X47 (v := (some (.int (1 : Int32)))) (fun h => by rw [Bd.returns] at h; cases h) (BodyLoose.notSynchronized Bd) (fun _ hr => retN X47 hx (t := .boolean) Bd.returns (by simp) (hb hby d1_106) hr) (by decide) (by decide) ?_
                    rw [e47]
                    exact ⟨by simp only [hold, if_neg c3_1, if_neg c9_6, if_neg c15_11, if_pos c21_16, if_neg c33_17, if_pos c39_34, if_neg c45_35, if_neg c51_41, if_pos c64_48], N0, rfl⟩
                  ·
                    refine Dn.by (U' := T47.setTop (mkF m 72 #[.val (.ref o0), .val (.int p1), .val (.int (1 : Int32)), .unset] [])) (fun _ k => Jvm.RoadKit.acmp (g := (mkF m 64 #[.val (.ref o0), .val (.int p1), .val (.int (1 : Int32)), .unset] [(.ref s_HTML), (.ref o0)])) X47 hx rfl rfl rfl (pc0 := 64) (pc' := 72) (same := false) rfl (hb hby d1_64) rfl (decide_eq_false fun q => c64_48 (Value.ref.inj q)) (by decide) (by decide) k) ?_
                    refine Dn.by (U' := T47.setTop (mkF m 73 #[.val (.ref o0), .val (.int p1), .val (.int (1 : Int32)), .unset] [(.ref o0)])) (fun _ k => XS.aloadN X47.here hx rfl (hb hby d1_72) rfl rfl k) ?_
                    obtain ⟨T49, X49, e49, st49⟩ := getS2 X47 hx hZ (a0 := a0) hown (host := "") (Or.inl (hw _ (List.mem_of_getElem? (i := 26) rfl))) Via.refl e47 S_XML_1_1 (g := (mkF m 73 #[.val (.ref o0), .val (.int p1), .val (.int (1 : Int32)), .unset] [(.ref o0)])) rfl (hb hby d1_73)
                    refine Dn.by (U' := T49.setTop (mkF m 76 #[.val (.ref o0), .val (.int p1), .val (.int (1 : Int32)), .unset] [(.ref s_XML_1_1), (.ref o0)])) st49 ?_
                    by_cases c76_50 : o0 = s_XML_1_1
                    ·
                      refine Dn.by (U' := T49.setTop (mkF m 79 #[.val (.ref o0), .val (.int p1), .val (.int (1 : Int32)), .unset] [])) (fun _ k => Jvm.RoadKit.acmp (g := (mkF m 76 #[.val (.ref o0), .val (.int p1), .val (.int (1 : Int32)), .unset] [(.ref s_XML_1_1), (.ref o0)])) X49 hx rfl rfl rfl (pc0 := 76) (pc' := 79) (same := true) rfl (hb hby d1_76) rfl (decide_eq_true (congrArg Value.ref c76_50)) (by decide) (by decide) k) ?_
                      refine Dn.by (U' := T49.setTop (mkF m 80 #[.val (.ref o0), .val (.int p1), .val (.int (1 : Int32)), .unset] [(.int (1 : Int32))])) (fun _ k => XS.iloadN X49.here hx rfl (hb hby d1_79) rfl k) ?_
                      refine Dn.by (U' := T49.setTop (mkF m 94 #[.val (.ref o0), .val (.int p1), .val (.int (1 : Int32)), .unset] [])) (fun _ k => XS.ifYes X49.here hx rfl (pc0 := 80) (pc' := 94) rfl (hb hby d1_80) rfl (by decide) (by decide) (by decide) k) ?_
                      refine Dn.by (U' := T49.setTop (mkF m 95 #[.val (.ref o0), .val (.int p1), .val (.int (1 : Int32)), .unset] [(.int (1 : Int32))])) (fun _ k => XS.iconst X49.here hx rfl (hb hby d1_94)  k) ?_
                      refine Dn.by (U' := T49.setTop (mkF m 99 #[.val (.ref o0), .val (.int p1), .val (.int (1 : Int32)), .unset] [(.int (1 : Int32))])) (fun _ k => XS.goto X49.here hx rfl (pc0 := 95) (pc' := 99) rfl (hb hby d1_95) (by decide) (by decide) k) ?_
                      refine Dn.by (U' := T49.setTop (mkF m 100 #[.val (.ref o0), .val (.int p1), .val (.int (1 : Int32)), .val (.int (1 : Int32))] [])) (fun _ k => XS.istoreN X49.here hx rfl (hb hby d1_99) rfl (l' := #[.val (.ref o0), .val (.int p1), .val (.int (1 : Int32)), .val (.int (1 : Int32))]) rfl k) ?_
                      refine Dn.by (U' := T49.setTop (mkF m 105 #[.val (.ref o0), .val (.int p1), .val (.int (1 : Int32)), .val (.int (1 : Int32))] [])) (fun _ k => XS.goto X49.here hx rfl (pc0 := 100) (pc' := 105) rfl (hb hby d1_100) (by decide) (by decide) k) ?_
                      refine Dn.by (U' := T49.setTop (mkF m 106 #[.val (.ref o0), .val (.int p1), .val (.int (1 : Int32)), .val (.int (1 : Int32))] [(.int (1 : Int32))])) (fun _ k => XS.iloadN X49.here hx rfl (hb hby d1_105) rfl k) ?_
                      refine Dn.out X49 (v := (some (.int (1 : Int32)))) (fun h => by rw [Bd.returns] at h; cases h) (BodyLoose.notSynchronized Bd) (fun _ hr => retN X49 hx (t := .boolean) Bd.returns (by simp) (hb hby d1_106) hr) (by decide) (by decide) ?_
                      rw [e49]
                      exact ⟨by simp only [hold, if_neg c3_1, if_neg c9_6, if_neg c15_11, if_pos c21_16, if_neg c33_17, if_pos c39_34, if_neg c45_35, if_neg c51_41, if_neg c64_48, if_pos c76_50], N0, rfl⟩
                    ·
                      refine Dn.by (U' := T49.setTop (mkF m 103 #[.val (.ref o0), .val (.int p1), .val (.int (1 : Int32)), .unset] [])) (fun _ k => Jvm.RoadKit.acmp (g := (mkF m 76 #[.val (.ref o0), .val (.int p1), .val (.int (1 : Int32)), .unset] [(.ref s_XML_1_1), (.ref o0)])) X49 hx rfl rfl rfl (pc0 := 76) (pc' := 103) (same := false) rfl (hb hby d1_76) rfl (decide_eq_false fun q => c76_50 (Value.ref.inj q)) (by decide) (by decide) k) ?_
                      refine Dn.by (U' := T49.setTop (mkF m 104 #[.val (.ref o0), .val (.int p1), .val (.int (1 : Int32)), .unset] [(.int (1 : Int32))])) (fun _ k => XS.iloadN X49.here hx rfl (hb hby d1_103) rfl k) ?_
                      refine Dn.by (U' := T49.setTop (mkF m 105 #[.val (.ref o0), .val (.int p1), .val (.int (1 : Int32)), .val (.int (1 : Int32))] [])) (fun _ k => XS.istoreN X49.here hx rfl (hb hby d1_104) rfl (l' := #[.val (.ref o0), .val (.int p1), .val (.int (1 : Int32)), .val (.int (1 : Int32))]) rfl k) ?_
                      refine Dn.by (U' := T49.setTop (mkF m 106 #[.val (.ref o0), .val (.int p1), .val (.int (1 : Int32)), .val (.int (1 : Int32))] [(.int (1 : Int32))])) (fun _ k => XS.iloadN X49.here hx rfl (hb hby d1_105) rfl k) ?_
                      refine Dn.out X49 (v := (some (.int (1 : Int32)))) (fun h => by rw [Bd.returns] at h; cases h) (BodyLoose.notSynchronized Bd) (fun _ hr => retN X49 hx (t := .boolean) Bd.returns (by simp) (hb hby d1_106) hr) (by decide) (by decide) ?_
                      rw [e49]
                      exact ⟨by simp only [hold, if_neg c3_1, if_neg c9_6, if_neg c15_11, if_pos c21_16, if_neg c33_17, if_pos c39_34, if_neg c45_35, if_neg c51_41, if_neg c64_48, if_neg c76_50], N0, rfl⟩
            ·
              refine Dn.by (U' := s₁.setTop (mkF m 54 #[.val (.ref o0), .val (.int p1), .unset, .unset] [])) (fun _ k => XS.icmpYes X0.here hx rfl (pc0 := 39) (pc' := 54) rfl (hb hby d1_39) rfl (flt c39_34).2.2.2 (by decide) (by decide) k) ?_
              refine Dn.by (U' := s₁.setTop (mkF m 55 #[.val (.ref o0), .val (.int p1), .unset, .unset] [(.int (1 : Int32))])) (fun _ k => XS.iconst X0.here hx rfl (hb hby d1_54)  k) ?_
              refine Dn.by (U' := s₁.setTop (mkF m 59 #[.val (.ref o0), .val (.int p1), .unset, .unset] [(.int (1 : Int32))])) (fun _ k => XS.goto X0.here hx rfl (pc0 := 55) (pc' := 59) rfl (hb hby d1_55) (by decide) (by decide) k) ?_
              refine Dn.by (U' := s₁.setTop (mkF m 60 #[.val (.ref o0), .val (.int p1), .val (.int (1 : Int32)), .unset] [])) (fun _ k => XS.istoreN X0.here hx rfl (hb hby d1_59) rfl (l' := #[.val (.ref o0), .val (.int p1), .val (.int (1 : Int32)), .unset]) rfl k) ?_
              refine Dn.by (U' := s₁.setTop (mkF m 61 #[.val (.ref o0), .val (.int p1), .val (.int (1 : Int32)), .unset] [(.ref o0)])) (fun _ k => XS.aloadN X0.here hx rfl (hb hby d1_60) rfl rfl k) ?_
              obtain ⟨T51, X51, e51, st51⟩ := getS2 X0 hx hZ (a0 := a0) hown (host := "") (Or.inl (hw _ (List.mem_of_getElem? (i := 25) rfl))) Via.refl e0 S_HTML (g := (mkF m 61 #[.val (.ref o0), .val (.int p1), .val (.int (1 : Int32)), .unset] [(.ref o0)])) rfl (hb hby d1_61)
              refine Dn.by (U' := T51.setTop (mkF m 64 #[.val (.ref o0), .val (.int p1), .val (.int (1 : Int32)), .unset] [(.ref s_HTML), (.ref o0)])) st51 ?_
              by_cases c64_52 : o0 = s_HTML
              ·
                refine Dn.by (U' := T51.setTop (mkF m 67 #[.val (.ref o0), .val (.int p1), .val (.int (1 : Int32)), .unset] [])) (fun _ k => Jvm.RoadKit.acmp (g := (mkF m 64 #[.val (.ref o0), .val (.int p1), .val (.int (1 : Int32)), .unset] [(.ref s_HTML), (.ref o0)])) X51 hx rfl rfl rfl (pc0 := 64) (pc' := 67) (same := true) rfl (hb hby d1_64) rfl (decide_eq_true (congrArg Value.ref c64_52)) (by decide) (by decide) k) ?_
                refine Dn.by (U' := T51.setTop (mkF m 68 #[.val (.ref o0), .val (.int p1), .val (.int (1 : Int32)), .unset] [(.int (1 : Int32))])) (fun _ k => XS.iconst X51.here hx rfl (hb hby d1_67)  k) ?_
                refine Dn.by (U' := T51.setTop (mkF m 69 #[.val (.ref o0), .val (.int p1), .val (.int (1 : Int32)), .val (.int (1 : Int32))] [])) (fun _ k => XS.istoreN X51.here hx rfl (hb hby d1_68) rfl (l' := #[.val (.ref o0), .val (.int p1), .val (.int (1 : Int32)), .val (.int (1 : Int32))]) rfl k) ?_
                refine Dn.by (U' := T51.setTop (mkF m 105 #[.val (.ref o0), .val (.int p1), .val (.int (1 : Int32)), .val (.int (1 : Int32))] [])) (fun _ k => XS.goto X51.here hx rfl (pc0 := 69) (pc' := 105) rfl (hb hby d1_69) (by decide) (by decide) k) ?_
                refine Dn.by (U' := T51.setTop (mkF m 106 #[.val (.ref o0), .val (.int p1), .val (.int (1 : Int32)), .val (.int (1 : Int32))] [(.int (1 : Int32))])) (fun _ k => XS.iloadN X51.here hx rfl (hb hby d1_105) rfl k) ?_
                refine Dn.out X51 (v := (some (.int (1 : Int32)))) (fun h => by rw [Bd.returns] at h; cases h) (BodyLoose.notSynchronized Bd) (fun _ hr => retN X51 hx (t := .boolean) Bd.returns (by simp) (hb hby d1_106) hr) (by decide) (by decide) ?_
                rw [e51]
                exact ⟨by simp only [hold, if_neg c3_1, if_neg c9_6, if_neg c15_11, if_pos c21_16, if_neg c33_17, if_neg c39_34, if_pos c64_52], N0, rfl⟩
              ·
                refine Dn.by (U' := T51.setTop (mkF m 72 #[.val (.ref o0), .val (.int p1), .val (.int (1 : Int32)), .unset] [])) (fun _ k => Jvm.RoadKit.acmp (g := (mkF m 64 #[.val (.ref o0), .val (.int p1), .val (.int (1 : Int32)), .unset] [(.ref s_HTML), (.ref o0)])) X51 hx rfl rfl rfl (pc0 := 64) (pc' := 72) (same := false) rfl (hb hby d1_64) rfl (decide_eq_false fun q => c64_52 (Value.ref.inj q)) (by decide) (by decide) k) ?_
                refine Dn.by (U' := T51.setTop (mkF m 73 #[.val (.ref o0), .val (.int p1), .val (.int (1 : Int32)), .unset] [(.ref o0)])) (fun _ k => XS.aloadN X51.here hx rfl (hb hby d1_72) rfl rfl k) ?_
                obtain ⟨T53, X53, e53, st53⟩ := getS2 X51 hx hZ (a0 := a0) hown (host := "") (Or.inl (hw _ (List.mem_of_getElem? (i := 26) rfl))) Via.refl e51 S_XML_1_1 (g := (mkF m 73 #[.val (.ref o0), .val (.int p1), .val (.int (1 : Int32)), .unset] [(.ref o0)])) rfl (hb hby d1_73)
                refine Dn.by (U' := T53.setTop (mkF m 76 #[.val (.ref o0), .val (.int p1), .val (.int (1 : Int32)), .unset] [(.ref s_XML_1_1), (.ref o0)])) st53 ?_
                by_cases c76_54 : o0 = s_XML_1_1
                ·
                  refine Dn.by (U' := T53.setTop (mkF m 79 #[.val (.ref o0), .val (.int p1), .val (.int (1 : Int32)), .unset] [])) (fun _ k => Jvm.RoadKit.acmp (g := (mkF m 76 #[.val (.ref o0), .val (.int p1), .val (.int (1 : Int32)), .unset] [(.ref s_XML_1_1), (.ref o0)])) X53 hx rfl rfl rfl (pc0 := 76) (pc' := 79) (same := true) rfl (hb hby d1_76) rfl (decide_eq_true (congrArg Value.ref c76_54)) (by decide) (by decide) k) ?_
                  refine Dn.by (U' := T53.setTop (mkF m 80 #[.val (.ref o0), .val (.int p1), .val (.int (1 : Int32)), .unset] [(.int (1 : Int32))])) (fun _ k => XS.iloadN X53.here hx rfl (hb hby d1_79) rfl k) ?_
                  refine Dn.by (U' := T53.setTop (mkF m 94 #[.val (.ref o0), .val (.int p1), .val (.int (1 : Int32)), .unset] [])) (fun _ k => XS.ifYes X53.here hx rfl (pc0 := 80) (pc' := 94) rfl (hb hby d1_80) rfl (by decide) (by decide) (by decide) k) ?_
                  refine Dn.by (U' := T53.setTop (mkF m 95 #[.val (.ref o0), .val (.int p1), .val (.int (1 : Int32)), .unset] [(.int (1 : Int32))])) (fun _ k => XS.iconst X53.here hx rfl (hb hby d1_94)  k) ?_
                  refine Dn.by (U' := T53.setTop (mkF m 99 #[.val (.ref o0), .val (.int p1), .val (.int (1 : Int32)), .unset] [(.int (1 : Int32))])) (fun _ k => XS.goto X53.here hx rfl (pc0 := 95) (pc' := 99) rfl (hb hby d1_95) (by decide) (by decide) k) ?_
                  refine Dn.by (U' := T53.setTop (mkF m 100 #[.val (.ref o0), .val (.int p1), .val (.int (1 : Int32)), .val (.int (1 : Int32))] [])) (fun _ k => XS.istoreN X53.here hx rfl (hb hby d1_99) rfl (l' := #[.val (.ref o0), .val (.int p1), .val (.int (1 : Int32)), .val (.int (1 : Int32))]) rfl k) ?_
                  refine Dn.by (U' := T53.setTop (mkF m 105 #[.val (.ref o0), .val (.int p1), .val (.int (1 : Int32)), .val (.int (1 : Int32))] [])) (fun _ k => XS.goto X53.here hx rfl (pc0 := 100) (pc' := 105) rfl (hb hby d1_100) (by decide) (by decide) k) ?_
                  refine Dn.by (U' := T53.setTop (mkF m 106 #[.val (.ref o0), .val (.int p1), .val (.int (1 : Int32)), .val (.int (1 : Int32))] [(.int (1 : Int32))])) (fun _ k => XS.iloadN X53.here hx rfl (hb hby d1_105) rfl k) ?_
                  refine Dn.out X53 (v := (some (.int (1 : Int32)))) (fun h => by rw [Bd.returns] at h; cases h) (BodyLoose.notSynchronized Bd) (fun _ hr => retN X53 hx (t := .boolean) Bd.returns (by simp) (hb hby d1_106) hr) (by decide) (by decide) ?_
                  rw [e53]
                  exact ⟨by simp only [hold, if_neg c3_1, if_neg c9_6, if_neg c15_11, if_pos c21_16, if_neg c33_17, if_neg c39_34, if_neg c64_52, if_pos c76_54], N0, rfl⟩
                ·
                  refine Dn.by (U' := T53.setTop (mkF m 103 #[.val (.ref o0), .val (.int p1), .val (.int (1 : Int32)), .unset] [])) (fun _ k => Jvm.RoadKit.acmp (g := (mkF m 76 #[.val (.ref o0), .val (.int p1), .val (.int (1 : Int32)), .unset] [(.ref s_XML_1_1), (.ref o0)])) X53 hx rfl rfl rfl (pc0 := 76) (pc' := 103) (same := false) rfl (hb hby d1_76) rfl (decide_eq_false fun q => c76_54 (Value.ref.inj q)) (by decide) (by decide) k) ?_
                  refine Dn.by (U' := T53.setTop (mkF m 104 #[.val (.ref o0), .val (.int p1), .val (.int (1 : Int32)), .unset] [(.int (1 : Int32))])) (fun _ k => XS.iloadN X53.here hx rfl (hb hby d1_103) rfl k) ?_
                  refine Dn.by (U' := T53.setTop (mkF m 105 #[.val (.ref o0), .val (.int p1), .val (.int (1 : Int32)), .val (.int (1 : Int32))] [])) (fun _ k => XS.istoreN X53.here hx rfl (hb hby d1_104) rfl (l' := #[.val (.ref o0), .val (.int p1), .val (.int (1 : Int32)), .val (.int (1 : Int32))]) rfl k) ?_
                  refine Dn.by (U' := T53.setTop (mkF m 106 #[.val (.ref o0), .val (.int p1), .val (.int (1 : Int32)), .val (.int (1 : Int32))] [(.int (1 : Int32))])) (fun _ k => XS.iloadN X53.here hx rfl (hb hby d1_105) rfl k) ?_
                  refine Dn.out X53 (v := (some (.int (1 : Int32)))) (fun h => by rw [Bd.returns] at h; cases h) (BodyLoose.notSynchronized Bd) (fun _ hr => retN X53 hx (t := .boolean) Bd.returns (by simp) (hb hby d1_106) hr) (by decide) (by decide) ?_
                  rw [e53]
                  exact ⟨by simp only [hold, if_neg c3_1, if_neg c9_6, if_neg c15_11, if_pos c21_16, if_neg c33_17, if_neg c39_34, if_neg c64_52, if_neg c76_54], N0, rfl⟩
        ·
          refine Dn.by (U' := s₁.setTop (mkF m 24 #[.val (.ref o0), .val (.int p1), .unset, .unset] [])) (fun _ k => XS.icmpNo X0.here hx rfl (hb hby d1_21) rfl (flt c21_16).1 k) ?_
          refine Dn.by (U' := s₁.setTop (mkF m 25 #[.val (.ref o0), .val (.int p1), .unset, .unset] [(.int p1)])) (fun _ k => XS.iloadN X0.here hx rfl (hb hby d1_24) rfl k) ?_
          refine Dn.by (U' := s₁.setTop (mkF m 27 #[.val (.ref o0), .val (.int p1), .unset, .unset] [(.int (55295 : Int32)), (.int p1)])) (X0.ldcInt hx hown (mvT hZ (hw _ (List.mem_of_getElem? (i := 31) rfl))) (g := (mkF m 25 #[.val (.ref o0), .val (.int p1), .unset, .unset] [(.int p1)])) rfl (hb hby d1_25)) ?_
          by_cases c27_55 : (55295 : Int32) < p1
          ·
            refine Dn.by (U' := s₁.setTop (mkF m 30 #[.val (.ref o0), .val (.int p1), .unset, .unset] [])) (fun _ k => XS.icmpNo X0.here hx rfl (hb hby d1_27) rfl (tlt c27_55).2.2.2 k) ?_
            refine Dn.by (U' := s₁.setTop (mkF m 31 #[.val (.ref o0), .val (.int p1), .unset, .unset] [(.int p1)])) (fun _ k => XS.iloadN X0.here hx rfl (hb hby d1_30) rfl k) ?_
            refine Dn.by (U' := s₁.setTop (mkF m 33 #[.val (.ref o0), .val (.int p1), .unset, .unset] [(.int (57344 : Int32)), (.int p1)])) (X0.ldcInt hx hown (mvT hZ (hw _ (List.mem_of_getElem? (i := 23) rfl))) (g := (mkF m 31 #[.val (.ref o0), .val (.int p1), .unset, .unset] [(.int p1)])) rfl (hb hby d1_31)) ?_
            by_cases c33_56 : p1 < (57344 : Int32)
            ·
              refine Dn.by (U' := s₁.setTop (mkF m 42 #[.val (.ref o0), .val (.int p1), .unset, .unset] [])) (fun _ k => XS.icmpYes X0.here hx rfl (pc0 := 33) (pc' := 42) rfl (hb hby d1_33) rfl (tlt c33_56).1 (by decide) (by decide) k) ?_
              refine Dn.by (U' := s₁.setTop (mkF m 43 #[.val (.ref o0), .val (.int p1), .unset, .unset] [(.int p1)])) (fun _ k => XS.iloadN X0.here hx rfl (hb hby d1_42) rfl k) ?_
              refine Dn.by (U' := s₁.setTop (mkF m 45 #[.val (.ref o0), .val (.int p1), .unset, .unset] [(.int (65536 : Int32)), (.int p1)])) (X0.ldcInt hx hown (mvT hZ (hw _ (List.mem_of_getElem? (i := 24) rfl))) (g := (mkF m 43 #[.val (.ref o0), .val (.int p1), .unset, .unset] [(.int p1)])) rfl (hb hby d1_43)) ?_
              by_cases c45_57 : p1 < (65536 : Int32)
              ·
                refine Dn.by (U' := s₁.setTop (mkF m 58 #[.val (.ref o0), .val (.int p1), .unset, .unset] [])) (fun _ k => XS.icmpYes X0.here hx rfl (pc0 := 45) (pc' := 58) rfl (hb hby d1_45) rfl (tlt c45_57).1 (by decide) (by decide) k) ?_
                refine Dn.by (U' := s₁.setTop (mkF m 59 #[.val (.ref o0), .val (.int p1), .unset, .unset] [(.int (0 : Int32))])) (fun _ k => XS.iconst X0.here hx rfl (hb hby d1_58)  k) ?_
                refine Dn.by (U' := s₁.setTop (mkF m 60 #[.val (.ref o0), .val (.int p1), .val (.int (0 : Int32)), .unset] [])) (fun _ k => XS.istoreN X0.here hx rfl (hb hby d1_59) rfl (l' := #[.val (.ref o0), .val (.int p1), .val (.int (0 : Int32)), .unset]) rfl k) ?_
                refine Dn.by (U' := s₁.setTop (mkF m 61 #[.val (.ref o0), .val (.int p1), .val (.int (0 : Int32)), .unset] [(.ref o0)])) (fun _ k => XS.aloadN X0.here hx rfl (hb hby d1_60) rfl rfl k) ?_
                obtain ⟨T58, X58, e58, st58⟩ := getS2 X0 hx hZ (a0 := a0) hown (host := "") (Or.inl (hw _ (List.mem_of_getElem? (i := 25) rfl))) Via.refl e0 S_HTML (g := (mkF m 61 #[.val (.ref o0), .val (.int p1), .val (.int (0 : Int32)), .unset] [(.ref o0)])) rfl (hb hby d1_61)
                refine Dn.by (U' := T58.setTop (mkF m 64 #[.val (.ref o0), .val (.int p1), .val (.int (0 : Int32)), .unset] [(.ref s_HTML), (.ref o0)])) st58 ?_
                by_cases c64_59 : o0 = s_HTML
                ·
                  refine Dn.by (U' := T58.setTop (mkF m 67 #[.val (.ref o0), .val (.int p1), .val (.int (0 : Int32)), .unset] [])) (fun _ k => Jvm.RoadKit.acmp (g := (mkF m 64 #[.val (.ref o0), .val (.int p1), .val (.int (0 : Int32)), .unset] [(.ref s_HTML), (.ref o0)])) X58 hx rfl rfl rfl (pc0 := 64) (pc' := 67) (same := true) rfl (hb hby d1_64) rfl (decide_eq_true (congrArg Value.ref c64_59)) (by decide) (by decide) k) ?_
                  refine Dn.by (U' := T58.setTop (mkF m 68 #[.val (.ref o0), .val (.int p1), .val (.int (0 : Int32)), .unset] [(.int (1 : Int32))])) (fun _ k => XS.iconst X58.here hx rfl (hb hby d1_67)  k) ?_
                  refine Dn.by (U' := T58.setTop (mkF m 69 #[.val (.ref o0), .val (.int p1), .val (.int (0 : Int32)), .val (.int (1 : Int32))] [])) (fun _ k => XS.istoreN X58.here hx rfl (hb hby d1_68) rfl (l' := #[.val (.ref o0), .val (.int p1), .val (.int (0 : Int32)), .val (.int (1 : Int32))]) rfl k) ?_
                  refine Dn.by (U' := T58.setTop (mkF m 105 #[.val (.ref o0), .val (.int p1), .val (.int (0 : Int32)), .val (.int (1 : Int32))] [])) (fun _ k => XS.goto X58.here hx rfl (pc0 := 69) (pc' := 105) rfl (hb hby d1_69) (by decide) (by decide) k) ?_
                  refine Dn.by (U' := T58.setTop (mkF m 106 #[.val (.ref o0), .val (.int p1), .val (.int (0 : Int32)), .val (.int (1 : Int32))] [(.int (1 : Int32))])) (fun _ k => XS.iloadN X58.here hx rfl (hb hby d1_105) rfl k) ?_
                  refine Dn.out X58 (v := (some (.int (1 : Int32)))) (fun h => by rw [Bd.returns] at h; cases h) (BodyLoose.notSynchronized Bd) (fun _ hr => retN X58 hx (t := .boolean) Bd.returns (by simp) (hb hby d1_106) hr) (by decide) (by decide) ?_
                  rw [e58]
                  exact ⟨by simp only [hold, if_neg c3_1, if_neg c9_6, if_neg c15_11, if_neg c21_16, if_pos c27_55, if_pos c33_56, if_pos c45_57, if_pos c64_59], N0, rfl⟩
                ·
                  refine Dn.by (U' := T58.setTop (mkF m 72 #[.val (.ref o0), .val (.int p1), .val (.int (0 : Int32)), .unset] [])) (fun _ k => Jvm.RoadKit.acmp (g := (mkF m 64 #[.val (.ref o0), .val (.int p1), .val (.int (0 : Int32)), .unset] [(.ref s_HTML), (.ref o0)])) X58 hx rfl rfl rfl (pc0 := 64) (pc' := 72) (same := false) rfl (hb hby d1_64) rfl (decide_eq_false fun q => c64_59 (Value.ref.inj q)) (by decide) (by decide) k) ?_
                  refine Dn.by (U' := T58.setTop (mkF m 73 #[.val (.ref o0), .val (.int p1), .val (.int (0 : Int32)), .unset] [(.ref o0)])) (fun _ k => XS.aloadN X58.here hx rfl (hb hby d1_72) rfl rfl k) ?_
                  obtain ⟨T60, X60, e60, st60⟩ := getS2 X58 hx hZ (a0 := a0) hown (host := "") (Or.inl (hw _ (List.mem_of_getElem? (i := 26) rfl))) Via.refl e58 S_XML_1_1 (g := (mkF m 73 #[.val (.ref o0), .val (.int p1), .val (.int (0 : Int32)), .unset] [(.ref o0)])) rfl (hb hby d1_73)
                  refine Dn.by (U' := T60.setTop (mkF m 76 #[.val (.ref o0), .val (.int p1), .val (.int (0 : Int32)), .unset] [(.ref s_XML_1_1), (.ref o0)])) st60 ?_
                  by_cases c76_61 : o0 = s_XML_1_1
                  ·
                    refine Dn.by (U' := T60.setTop (mkF m 79 #[.val (.ref o0), .val (.int p1), .val (.int (0 : Int32)), .unset] [])) (fun _ k => Jvm.RoadKit.acmp (g := (mkF m 76 #[.val (.ref o0), .val (.int p1), .val (.int (0 : Int32)), .unset] [(.ref s_XML_1_1), (.ref o0)])) X60 hx rfl rfl rfl (pc0 := 76) (pc' := 79) (same := true) rfl (hb hby d1_76) rfl (decide_eq_true (congrArg Value.ref c76_61)) (by decide) (by decide) k) ?_
                    refine Dn.by (U' := T60.setTop (mkF m 80 #[.val (.ref o0), .val (.int p1), .val (.int (0 : Int32)), .unset] [(.int (0 : Int32))])) (fun _ k => XS.iloadN X60.here hx rfl (hb hby d1_79) rfl k) ?_
                    refine Dn.by (U' := T60.setTop (mkF m 83 #[.val (.ref o0), .val (.int p1), .val (.int (0 : Int32)), .unset] [])) (fun _ k => XS.ifNo X60.here hx rfl (hb hby d1_80) rfl (by decide) k) ?_
                    refine Dn.by (U' := T60.setTop (mkF m 84 #[.val (.ref o0), .val (.int p1), .val (.int (0 : Int32)), .unset] [(.int p1)])) (fun _ k => XS.iloadN X60.here hx rfl (hb hby d1_83) rfl k) ?_
                    refine Dn.by (U' := T60.setTop (mkF m 85 #[.val (.ref o0), .val (.int p1), .val (.int (0 : Int32)), .unset] [(.int (1 : Int32)), (.int p1)])) (fun _ k => XS.iconst X60.here hx rfl (hb hby d1_84)  k) ?_
                    by_cases c85_62 : p1 < (1 : Int32)
                    ·
                      refine Dn.by (U' := T60.setTop (mkF m 98 #[.val (.ref o0), .val (.int p1), .val (.int (0 : Int32)), .unset] [])) (fun _ k => XS.icmpYes X60.here hx rfl (pc0 := 85) (pc' := 98) rfl (hb hby d1_85) rfl (tlt c85_62).1 (by decide) (by decide) k) ?_
                      refine Dn.by (U' := T60.setTop (mkF m 99 #[.val (.ref o0), .val (.int p1), .val (.int (0 : Int32)), .unset] [(.int (0 : Int32))])) (fun _ k => XS.iconst X60.here hx rfl (hb hby d1_98)  k) ?_
                      refine Dn.by (U' := T60.setTop (mkF m 100 #[.val (.ref o0), .val (.int p1), .val (.int (0 : Int32)), .val (.int (0 : Int32))] [])) (fun _ k => XS.istoreN X60.here hx rfl (hb hby d1_99) rfl (l' := #[.val (.ref o0), .val (.int p1), .val (.int (0 : Int32)), .val (.int (0 : Int32))]) rfl k) ?_
                      refine Dn.by (U' := T60.setTop (mkF m 105 #[.val (.ref o0), .val (.int p1), .val (.int (0 : Int32)), .val (.int (0 : Int32))] [])) (fun _ k => XS.goto X60.here hx rfl (pc0 := 100) (pc' := 105) rfl (hb hby d1_100) (by decide) (by decide) k) ?_
                      refine Dn.by (U' := T60.setTop (mkF m 106 #[.val (.ref o0), .val (.int p1), .val (.int (0 : Int32)), .val (.int (0 : Int32))] [(.int (0 : Int32))])) (fun _ k => XS.iloadN X60.here hx rfl (hb hby d1_105) rfl k) ?_
                      refine Dn.out X60 (v := (some (.int (0 : Int32)))) (fun h => by rw [Bd.returns] at h; cases h) (BodyLoose.notSynchronized Bd) (fun _ hr => retN X60 hx (t := .boolean) Bd.returns (by simp) (hb hby d1_106) hr) (by decide) (by decide) ?_
                      rw [e60]
                      exact ⟨by simp only [hold, if_neg c3_1, if_neg c9_6, if_neg c15_11, if_neg c21_16, if_pos c27_55, if_pos c33_56, if_pos c45_57, if_neg c64_59, if_pos c76_61, if_pos c85_62], N0, rfl⟩
                    ·
                      refine Dn.by (U' := T60.setTop (mkF m 88 #[.val (.ref o0), .val (.int p1), .val (.int (0 : Int32)), .unset] [])) (fun _ k => XS.icmpNo X60.here hx rfl (hb hby d1_85) rfl (flt c85_62).1 k) ?_
                      refine Dn.by (U' := T60.setTop (mkF m 89 #[.val (.ref o0), .val (.int p1), .val (.int (0 : Int32)), .unset] [(.int p1)])) (fun _ k => XS.iloadN X60.here hx rfl (hb hby d1_88) rfl k) ?_
                      refine Dn.by (U' := T60.setTop (mkF m 91 #[.val (.ref o0), .val (.int p1), .val (.int (0 : Int32)), .unset] [(.int (32 : Int32)), (.int p1)])) (fun _ k => XS.bipush X60.here hx rfl (hb hby d1_89)  k) ?_
                      refine Dn.by (U' := T60.setTop (mkF m 98 #[.val (.ref o0), .val (.int p1), .val (.int (0 : Int32)), .unset] [])) (fun _ k => XS.icmpYes X60.here hx rfl (pc0 := 91) (pc' := 98) rfl (hb hby d1_91) rfl (flt c21_16).2.1 (by decide) (by decide) k) ?_
                      refine Dn.by (U' := T60.setTop (mkF m 99 #[.val (.ref o0), .val (.int p1), .val (.int (0 : Int32)), .unset] [(.int (0 : Int32))])) (fun _ k => XS.iconst X60.here hx rfl (hb hby d1_98)  k) ?_
                      refine Dn.by (U' := T60.setTop (mkF m 100 #[.val (.ref o0), .val (.int p1), .val (.int (0 : Int32)), .val (.int (0 : Int32))] [])) (fun _ k => XS.istoreN X60.here hx rfl (hb hby d1_99) rfl (l' := #[.val (.ref o0), .val (.int p1), .val (.int (0 : Int32)), .val (.int (0 : Int32))]) rfl k) ?_
                      refine Dn.by (U' := T60.setTop (mkF m 105 #[.val (.ref o0), .val (.int p1), .val (.int (0 : Int32)), .val (.int (0 : Int32))] [])) (fun _ k => XS.goto X60.here hx rfl (pc0 := 100) (pc' := 105) rfl (hb hby d1_100) (by decide) (by decide) k) ?_
                      refine Dn.by (U' := T60.setTop (mkF m 106 #[.val (.ref o0), .val (.int p1), .val (.int (0 : Int32)), .val (.int (0 : Int32))] [(.int (0 : Int32))])) (fun _ k => XS.iloadN X60.here hx rfl (hb hby d1_105) rfl k) ?_
                      refine Dn.out X60 (v := (some (.int (0 : Int32)))) (fun h => by rw [Bd.returns] at h; cases h) (BodyLoose.notSynchronized Bd) (fun _ hr => retN X60 hx (t := .boolean) Bd.returns (by simp) (hb hby d1_106) hr) (by decide) (by decide) ?_
                      rw [e60]
                      exact ⟨by simp only [hold, if_neg c3_1, if_neg c9_6, if_neg c15_11, if_neg c21_16, if_pos c27_55, if_pos c33_56, if_pos c45_57, if_neg c64_59, if_pos c76_61, if_neg c85_62], N0, rfl⟩
                  ·
                    refine Dn.by (U' := T60.setTop (mkF m 103 #[.val (.ref o0), .val (.int p1), .val (.int (0 : Int32)), .unset] [])) (fun _ k => Jvm.RoadKit.acmp (g := (mkF m 76 #[.val (.ref o0), .val (.int p1), .val (.int (0 : Int32)), .unset] [(.ref s_XML_1_1), (.ref o0)])) X60 hx rfl rfl rfl (pc0 := 76) (pc' := 103) (same := false) rfl (hb hby d1_76) rfl (decide_eq_false fun q => c76_61 (Value.ref.inj q)) (by decide) (by decide) k) ?_
                    refine Dn.by (U' := T60.setTop (mkF m 104 #[.val (.ref o0), .val (.int p1), .val (.int (0 : Int32)), .unset] [(.int (0 : Int32))])) (fun _ k => XS.iloadN X60.here hx rfl (hb hby d1_103) rfl k) ?_
                    refine Dn.by (U' := T60.setTop (mkF m 105 #[.val (.ref o0), .val (.int p1), .val (.int (0 : Int32)), .val (.int (0 : Int32))] [])) (fun _ k => XS.istoreN X60.here hx rfl (hb hby d1_104) rfl (l' := #[.val (.ref o0), .val (.int p1), .val (.int (0 : Int32)), .val (.int (0 : Int32))]) rfl k) ?_
                    refine Dn.by (U' := T60.setTop (mkF m 106 #[.val (.ref o0), .val (.int p1), .val (.int (0 : Int32)), .val (.int (0 : Int32))] [(.int (0 : Int32))])) (fun _ k => XS.iloadN X60.here hx rfl (hb hby d1_105) rfl k) ?_
                    refine Dn.out X60 (v := (some (.int (0 : Int32)))) (fun h => by rw [Bd.returns] at h; cases h) (BodyLoose.notSynchronized Bd) (fun _ hr => retN X60 hx (t := .boolean) Bd.returns (by simp) (hb hby d1_106) hr) (by decide) (by decide) ?_
                    rw [e60]
                    exact ⟨by simp only [hold, if_neg c3_1, if_neg c9_6, if_neg c15_11, if_neg c21_16, if_pos c27_55, if_pos c33_56, if_pos c45_57, if_neg c64_59, if_neg c76_61], N0, rfl⟩
              ·
                refine Dn.by (U' := s₁.setTop (mkF m 48 #[.val (.ref o0), .val (.int p1), .unset, .unset] [])) (fun _ k => XS.icmpNo X0.here hx rfl (hb hby d1_45) rfl (flt c45_57).1 k) ?_
                refine Dn.by (U' := s₁.setTop (mkF m 49 #[.val (.ref o0), .val (.int p1), .unset, .unset] [(.int p1)])) (fun _ k => XS.iloadN X0.here hx rfl (hb hby d1_48) rfl k) ?_
                refine Dn.by (U' := s₁.setTop (mkF m 51 #[.val (.ref o0), .val (.int p1), .unset, .unset] [(.int (1114111 : Int32)), (.int p1)])) (X0.ldcInt hx hown (mvT hZ (hw _ (List.mem_of_getElem? (i := 33) rfl))) (g := (mkF m 49 #[.val (.ref o0), .val (.int p1), .unset, .unset] [(.int p1)])) rfl (hb hby d1_49)) ?_
                by_cases c51_63 : (1114111 : Int32) < p1
                ·
                  refine Dn.by (U' := s₁.setTop (mkF m 58 #[.val (.ref o0), .val (.int p1), .unset, .unset] [])) (fun _ k => XS.icmpYes X0.here hx rfl (pc0 := 51) (pc' := 58) rfl (hb hby d1_51) rfl (tlt c51_63).2.2.1 (by decide) (by decide) k) ?_
                  refine Dn.by (U' := s₁.setTop (mkF m 59 #[.val (.ref o0), .val (.int p1), .unset, .unset] [(.int (0 : Int32))])) (fun _ k => XS.iconst X0.here hx rfl (hb hby d1_58)  k) ?_
                  refine Dn.by (U' := s₁.setTop (mkF m 60 #[.val (.ref o0), .val (.int p1), .val (.int (0 : Int32)), .unset] [])) (fun _ k => XS.istoreN X0.here hx rfl (hb hby d1_59) rfl (l' := #[.val (.ref o0), .val (.int p1), .val (.int (0 : Int32)), .unset]) rfl k) ?_
                  refine Dn.by (U' := s₁.setTop (mkF m 61 #[.val (.ref o0), .val (.int p1), .val (.int (0 : Int32)), .unset] [(.ref o0)])) (fun _ k => XS.aloadN X0.here hx rfl (hb hby d1_60) rfl rfl k) ?_
                  obtain ⟨T64, X64, e64, st64⟩ := getS2 X0 hx hZ (a0 := a0) hown (host := "") (Or.inl (hw _ (List.mem_of_getElem? (i := 25) rfl))) Via.refl e0 S_HTML (g := (mkF m 61 #[.val (.ref o0), .val (.int p1), .val (.int (0 : Int32)), .unset] [(.ref o0)])) rfl (hb hby d1_61)
                  refine Dn.by (U' := T64.setTop (mkF m 64 #[.val (.ref o0), .val (.int p1), .val (.int (0 : Int32)), .unset] [(.ref s_HTML), (.ref o0)])) st64 ?_
                  by_cases c64_65 : o0 = s_HTML
                  ·
                    refine Dn.by (U' := T64.setTop (mkF m 67 #[.val (.ref o0), .val (.int p1), .val (.int (0 : Int32)), .unset] [])) (fun _ k => Jvm.RoadKit.acmp (g := (mkF m 64 #[.val (.ref o0), .val (.int p1), .val (.int (0 : Int32)), .unset] [(.ref s_HTML), (.ref o0)])) X64 hx rfl rfl rfl (pc0 := 64) (pc' := 67) (same := true) rfl (hb hby d1_64) rfl (decide_eq_true (congrArg Value.ref c64_65)) (by decide) (by decide) k) ?_
                    refine Dn.by (U' := T64.setTop (mkF m 68 #[.val (.ref o0), .val (.int p1), .val (.int (0 : Int32)), .unset] [(.int (1 : Int32))])) (fun _ k => XS.iconst X64.here hx rfl (hb hby d1_67)  k) ?_
                    refine Dn.by (U' := T64.setTop (mkF m 69 #[.val (.ref o0), .val (.int p1), .val (.int (0 : Int32)), .val (.int (1 : Int32))] [])) (fun _ k => XS.istoreN X64.here hx rfl (hb hby d1_68) rfl (l' := #[.val (.ref o0), .val (.int p1), .val (.int (0 : Int32)), .val (.int (1 : Int32))]) rfl k) ?_
                    refine Dn.by (U' := T64.setTop (mkF m 105 #[.val (.ref o0), .val (.int p1), .val (.int (0 : Int32)), .val (.int (1 : Int32))] [])) (fun _ k => XS.goto X64.here hx rfl (pc0 := 69) (pc' := 105) rfl (hb hby d1_69) (by decide) (by decide) k) ?_
                    refine Dn.by (U' := T64.setTop (mkF m 106 #[.val (.ref o0), .val (.int p1), .val (.int (0 : Int32)), .val (.int (1 : Int32))] [(.int (1 : Int32))])) (fun _ k => XS.iloadN X64.here hx rfl (hb hby d1_105) rfl k) ?_
                    refine Dn.out X64 (v := (some (.int (1 : Int32)))) (fun h => by rw [Bd.returns] at h; cases h) (BodyLoose.notSynchronized Bd) (fun _ hr => retN X64 hx (t := .boolean) Bd.returns (by simp) (hb hby d1_106) hr) (by decide) (by decide) ?_
                    rw [e64]
                    exact ⟨by simp only [hold, if_neg c3_1, if_neg c9_6, if_neg c15_11, if_neg c21_16, if_pos c27_55, if_pos c33_56, if_neg c45_57, if_pos c51_63, if_pos c64_65], N0, rfl⟩
                  ·
                    refine Dn.by (U' := T64.setTop (mkF m 72 #[.val (.ref o0), .val (.int p1), .val (.int (0 : Int32)), .unset] [])) (fun _ k => Jvm.RoadKit.acmp (g := (mkF m 64 #[.val (.ref o0), .val (.int p1), .val (.int (0 : Int32)), .unset] [(.ref s_HTML), (.ref o0)])) X64 hx rfl rfl rfl (pc0 := 64) (pc' := 72) (same := false) rfl (hb hby d1_64) rfl (decide_eq_false fun q => c64_65 (Value.ref.inj q)) (by decide) (by decide) k) ?_
                    refine Dn.by (U' := T64.setTop (mkF m 73 #[.val (.ref o0), .val (.int p1), .val (.int (0 : Int32)), .unset] [(.ref o0)])) (fun _ k => XS.aloadN X64.here hx rfl (hb hby d1_72) rfl rfl k) ?_
                    obtain ⟨T66, X66, e66, st66⟩ := getS2 X64 hx hZ (a0 := a0) hown (host := "") (Or.inl (hw _ (List.mem_of_getElem? (i := 26) rfl))) Via.refl e64 S_XML_1_1 (g := (mkF m 73 #[.val (.ref o0), .val (.int p1), .val (.int (0 : Int32)), .unset] [(.ref o0)])) rfl (hb hby d1_73)
                    refine Dn.by (U' := T66.setTop (mkF m 76 #[.val (.ref o0), .val (.int p1), .val (.int (0 : Int32)), .unset] [(.ref s_XML_1_1), (.ref o0)])) st66 ?_
                    by_cases c76_67 : o0 = s_XML_1_1
                    ·
                      refine Dn.by (U' := T66.setTop (mkF m 79 #[.val (.ref o0), .val (.int p1), .val (.int (0 : Int32)), .unset] [])) (fun _ k => Jvm.RoadKit.acmp (g := (mkF m 76 #[.val (.ref o0), .val (.int p1), .val (.int (0 : Int32)), .unset] [(.ref s_XML_1_1), (.ref o0)])) X66 hx rfl rfl rfl (pc0 := 76) (pc' := 79) (same := true) rfl (hb hby d1_76) rfl (decide_eq_true (congrArg Value.ref c76_67)) (by decide) (by decide) k) ?_
                      refine Dn.by (U' := T66.setTop (mkF m 80 #[.val (.ref o0), .val (.int p1), .val (.int (0 : Int32)), .unset] [(.int (0 : Int32))])) (fun _ k => XS.iloadN X66.here hx rfl (hb hby d1_79) rfl k) ?_
                      refine Dn.by (U' := T66.setTop (mkF m 83 #[.val (.ref o0), .val (.int p1), .val (.int (0 : Int32)), .unset] [])) (fun _ k => XS.ifNo X66.here hx rfl (hb hby d1_80) rfl (by decide) k) ?_
                      refine Dn.by (U' := T66.setTop (mkF m 84 #[.val (.ref o0), .val (.int p1), .val (.int (0 : Int32)), .unset] [(.int p1)])) (fun _ k => XS.iloadN X66.here hx rfl (hb hby d1_83) rfl k) ?_
                      refine Dn.by (U' := T66.setTop (mkF m 85 #[.val (.ref o0), .val (.int p1), .val (.int (0 : Int32)), .unset] [(.int (1 : Int32)), (.int p1)])) (fun _ k => XS.iconst X66.here hx rfl (hb hby d1_84)  k) ?_
                      by_cases c85_68 : p1 < (1 : Int32)
                      ·
                        refine Dn.by (U' := T66.setTop (mkF m 98 #[.val (.ref o0), .val (.int p1), .val (.int (0 : Int32)), .unset] [])) (fun _ k => XS.icmpYes X66.here hx rfl (pc0 := 85) (pc' := 98) rfl (hb hby d1_85) rfl (tlt c85_68).1 (by decide) (by decide) k) ?_
                        refine Dn.by (U' := T66.setTop (mkF m 99 #[.val (.ref o0), .val (.int p1), .val (.int (0 : Int32)), .unset] [(.int (0 : Int32))])) (fun _ k => XS.iconst X66.here hx rfl (hb hby d1_98)  k) ?_
                        refine Dn.by (U' := T66.setTop (mkF m 100 #[.val (.ref o0), .val (.int p1), .val (.int (0 : Int32)), .val (.int (0 : Int32))] [])) (fun _ k => XS.istoreN X66.here hx rfl (hb hby d1_99) rfl (l' := #[.val (.ref o0), .val (.int p1), .val (.int (0 : Int32)), .val (.int (0 : Int32))]) rfl k) ?_
                        refine Dn.by (U' := T66.setTop (mkF m 105 #[.val (.ref o0), .val (.int p1), .val (.int (0 : Int32)), .val (.int (0 : Int32))] [])) (fun _ k => XS.goto X66.here hx rfl (pc0 := 100) (pc' := 105) rfl (hb hby d1_100) (by decide) (by decide) k) ?_
                        refine Dn.by (U' := T66.setTop (mkF m 106 #[.val (.ref o0), .val (.int p1), .val (.int (0 : Int32)), .val (.int (0 : Int32))] [(.int (0 : Int32))])) (fun _ k => XS.iloadN X66.here hx rfl (hb hby d1_105) rfl k) ?_
                        refine Dn.out X66 (v := (some (.int (0 : Int32)))) (fun h => by rw [Bd.returns] at h; cases h) (BodyLoose.notSynchronized Bd) (fun _ hr => retN X66 hx (t := .boolean) Bd.returns (by simp) (hb hby d1_106) hr) (by decide) (by decide) ?_
                        rw [e66]
                        exact ⟨by simp only [hold, if_neg c3_1, if_neg c9_6, if_neg c15_11, if_neg c21_16, if_pos c27_55, if_pos c33_56, if_neg c45_57, if_pos c51_63, if_neg c64_65, if_pos c76_67, if_pos c85_68], N0, rfl⟩
                      ·
                        refine Dn.by (U' := T66.setTop (mkF m 88 #[.val (.ref o0), .val (.int p1), .val (.int (0 : Int32)), .unset] [])) (fun _ k => XS.icmpNo X66.here hx rfl (hb hby d1_85) rfl (flt c85_68).1 k) ?_
                        refine Dn.by (U' := T66.setTop (mkF m 89 #[.val (.ref o0), .val (.int p1), .val (.int (0 : Int32)), .unset] [(.int p1)])) (fun _ k => XS.iloadN X66.here hx rfl (hb hby d1_88) rfl k) ?_
                        refine Dn.by (U' := T66.setTop (mkF m 91 #[.val (.ref o0), .val (.int p1), .val (.int (0 : Int32)), .unset] [(.int (32 : Int32)), (.int p1)])) (fun _ k => XS.bipush X66.here hx rfl (hb hby d1_89)  k) ?_
                        refine Dn.by (U' := T66.setTop (mkF m 98 #[.val (.ref o0), .val (.int p1), .val (.int (0 : Int32)), .unset] [])) (fun _ k => XS.icmpYes X66.here hx rfl (pc0 := 91) (pc' := 98) rfl (hb hby d1_91) rfl (flt c21_16).2.1 (by decide) (by decide) k) ?_
                        refine Dn.by (U' := T66.setTop (mkF m 99 #[.val (.ref o0), .val (.int p1), .val (.int (0 : Int32)), .unset] [(.int (0 : Int32))])) (fun _ k => XS.iconst X66.here hx rfl (hb hby d1_98)  k) ?_
                        refine Dn.by (U' := T66.setTop (mkF m 100 #[.val (.ref o0), .val (.int p1), .val (.int (0 : Int32)), .val (.int (0 : Int32))] [])) (fun _ k => XS.istoreN X66.here hx rfl (hb hby d1_99) rfl (l' := #[.val (.ref o0), .val (.int p1), .val (.int (0 : Int32)), .val (.int (0 : Int32))]) rfl k) ?_
                        refine Dn.by (U' := T66.setTop (mkF m 105 #[.val (.ref o0), .val (.int p1), .val (.int (0 : Int32)), .val (.int (0 : Int32))] [])) (fun _ k => XS.goto X66.here hx rfl (pc0 := 100) (pc' := 105) rfl (hb hby d1_100) (by decide) (by decide) k) ?_
                        refine Dn.by (U' := T66.setTop (mkF m 106 #[.val (.ref o0), .val (.int p1), .val (.int (0 : Int32)), .val (.int (0 : Int32))] [(.int (0 : Int32))])) (fun _ k => XS.iloadN X66.here hx rfl (hb hby d1_105) rfl k) ?_
                        refine Dn.out X66 (v := (some (.int (0 : Int32)))) (fun h => by rw [Bd.returns] at h; cases h) (BodyLoose.notSynchronized Bd) (fun _ hr => retN X66 hx (t := .boolean) Bd.returns (by simp) (hb hby d1_106) hr) (by decide) (by decide) ?_
                        rw [e66]
                        exact ⟨by simp only [hold, if_neg c3_1, if_neg c9_6, if_neg c15_11, if_neg c21_16, if_pos c27_55, if_pos c33_56, if_neg c45_57, if_pos c51_63, if_neg c64_65, if_pos c76_67, if_neg c85_68], N0, rfl⟩
                    ·
                      refine Dn.by (U' := T66.setTop (mkF m 103 #[.val (.ref o0), .val (.int p1), .val (.int (0 : Int32)), .unset] [])) (fun _ k => Jvm.RoadKit.acmp (g := (mkF m 76 #[.val (.ref o0), .val (.int p1), .val (.int (0 : Int32)), .unset] [(.ref s_XML_1_1), (.ref o0)])) X66 hx rfl rfl rfl (pc0 := 76) (pc' := 103) (same := false) rfl (hb hby d1_76) rfl (decide_eq_false fun q => c76_67 (Value.ref.inj q)) (by decide) (by decide) k) ?_
                      refine Dn.by (U' := T66.setTop (mkF m 104 #[.val (.ref o0), .val (.int p1), .val (.int (0 : Int32)), .unset] [(.int (0 : Int32))])) (fun _ k => XS.iloadN X66.here hx rfl (hb hby d1_103) rfl k) ?_
                      refine Dn.by (U' := T66.setTop (mkF m 105 #[.val (.ref o0), .val (.int p1), .val (.int (0 : Int32)), .val (.int (0 : Int32))] [])) (fun _ k => XS.istoreN X66.here hx rfl (hb hby d1_104) rfl (l' := #[.val (.ref o0), .val (.int p1), .val (.int (0 : Int32)), .val (.int (0 : Int32))]) rfl k) ?_
                      refine Dn.by (U' := T66.setTop (mkF m 106 #[.val (.ref o0), .val (.int p1), .val (.int (0 : Int32)), .val (.int (0 : Int32))] [(.int (0 : Int32))])) (fun _ k => XS.iloadN X66.here hx rfl (hb hby d1_105) rfl k) ?_
                      refine Dn.out X66 (v := (some (.int (0 : Int32)))) (fun h => by rw [Bd.returns] at h; cases h) (BodyLoose.notSynchronized Bd) (fun _ hr => retN X66 hx (t := .boolean) Bd.returns (by simp) (hb hby d1_106) hr) (by decide) (by decide) ?_
                      rw [e66]
                      exact ⟨by simp only [hold, if_neg c3_1, if_neg c9_6, if_neg c15_11, if_neg c21_16, if_pos c27_55, if_pos c33_56, if_neg c45_57, if_pos c51_63, if_neg c64_65, if_neg c76_67], N0, rfl⟩
                ·
                  refine Dn.by (U' := s₁.setTop (mkF m 54 #[.val (.ref o0), .val (.int p1), .unset, .unset] [])) (fun _ k => XS.icmpNo X0.here hx rfl (hb hby d1_51) rfl (flt c51_63).2.2.1 k) ?_
                  refine Dn.by (U' := s₁.setTop (mkF m 55 #[.val (.ref o0), .val (.int p1), .unset, .unset] [(.int (1 : Int32))])) (fun _ k => XS.iconst X0.here hx rfl (hb hby d1_54)  k) ?_
                  refine Dn.by (U' := s₁.setTop (mkF m 59 #[.val (.ref o0), .val (.int p1), .unset, .unset] [(.int (1 : Int32))])) (fun _ k => XS.goto X0.here hx rfl (pc0 := 55) (pc' := 59) rfl (hb hby d1_55) (by decide) (by decide) k) ?_
                  refine Dn.by (U' := s₁.setTop (mkF m 60 #[.val (.ref o0), .val (.int p1), .val (.int (1 : Int32)), .unset] [])) (fun _ k => XS.istoreN X0.here hx rfl (hb hby d1_59) rfl (l' := #[.val (.ref o0), .val (.int p1), .val (.int (1 : Int32)), .unset]) rfl k) ?_
                  refine Dn.by (U' := s₁.setTop (mkF m 61 #[.val (.ref o0), .val (.int p1), .val (.int (1 : Int32)), .unset] [(.ref o0)])) (fun _ k => XS.aloadN X0.here hx rfl (hb hby d1_60) rfl rfl k) ?_
                  obtain ⟨T69, X69, e69, st69⟩ := getS2 X0 hx hZ (a0 := a0) hown (host := "") (Or.inl (hw _ (List.mem_of_getElem? (i := 25) rfl))) Via.refl e0 S_HTML (g := (mkF m 61 #[.val (.ref o0), .val (.int p1), .val (.int (1 : Int32)), .unset] [(.ref o0)])) rfl (hb hby d1_61)
                  refine Dn.by (U' := T69.setTop (mkF m 64 #[.val (.ref o0), .val (.int p1), .val (.int (1 : Int32)), .unset] [(.ref s_HTML), (.ref o0)])) st69 ?_
                  by_cases c64_70 : o0 = s_HTML
                  ·
                    refine Dn.by (U' := T69.setTop (mkF m 67 #[.val (.ref o0), .val (.int p1), .val (.int (1 : Int32)), .unset] [])) (fun _ k => Jvm.RoadKit.acmp (g := (mkF m 64 #[.val (.ref o0), .val (.int p1), .val (.int (1 : Int32)), .unset] [(.ref s_HTML), (.ref o0)])) X69 hx rfl rfl rfl (pc0 := 64) (pc' := 67) (same := true) rfl (hb hby d1_64) rfl (decide_eq_true (congrArg Value.ref c64_70)) (by decide) (by decide) k) ?_
                    refine Dn.by (U' := T69.setTop (mkF m 68 #[.val (.ref o0), .val (.int p1), .val (.int (1 : Int32)), .unset] [(.int (1 : Int32))])) (fun _ k => XS.iconst X69.here hx rfl (hb hby d1_67)  k) ?_
                    refine Dn.by (U' := T69.setTop (mkF m 69 #[.val (.ref o0), .val (.int p1), .val (.int (1 : Int32)), .val (.int (1 : Int32))] [])) (fun _ k => XS.istoreN X69.here hx rfl (hb hby d1_68) rfl (l' := #[.val (.ref o0), .val (.int p1), .val (.int (1 : Int32)), .val (.int (1 : Int32))]) rfl k) ?_
                    refine Dn.by (U' := T69.setTop (mkF m 105 #[.val (.ref o0), .val (.int p1), .val (.int (1 : Int32)), .val (.int (1 : Int32))] [])) (fun _ k => XS.goto X69.here hx rfl (pc0 := 69) (pc' := 105) rfl (hb hby d1_69) (by decide) (by decide) k) ?_
                    refine Dn.by (U' := T69.setTop (mkF m 106 #[.val (.ref o0), .val (.int p1), .val (.int (1 : Int32)), .val (.int (1 : Int32))] [(.int (1 : Int32))])) (fun _ k => XS.iloadN X69.here hx rfl (hb hby d1_105) rfl k) ?_
                    refine Dn.out X69 (v := (some (.int (1 : Int32)))) (fun h => by rw [Bd.returns] at h; cases h) (BodyLoose.notSynchronized Bd) (fun _ hr => retN X69 hx (t := .boolean) Bd.returns (by simp) (hb hby d1_106) hr) (by decide) (by decide) ?_
                    rw [e69]
                    exact ⟨by simp only [hold, if_neg c3_1, if_neg c9_6, if_neg c15_11, if_neg c21_16, if_pos c27_55, if_pos c33_56, if_neg c45_57, if_neg c51_63, if_pos c64_70], N0, rfl⟩
                  ·
                    refine Dn.by (U' := T69.setTop (mkF m 72 #[.val (.ref o0), .val (.int p1), .val (.int (1 : Int32)), .unset] [])) (fun _ k => Jvm.RoadKit.acmp (g := (mkF m 64 #[.val (.ref o0), .val (.int p1), .val (.int (1 : Int32)), .unset] [(.ref s_HTML), (.ref o0)])) X69 hx rfl rfl rfl (pc0 := 64) (pc' := 72) (same := false) rfl (hb hby d1_64) rfl (decide_eq_false fun q => c64_70 (Value.ref.inj q)) (by decide) (by decide) k) ?_
                    refine Dn.by (U' := T69.setTop (mkF m 73 #[.val (.ref o0), .val (.int p1), .val (.int (1 : Int32)), .unset] [(.ref o0)])) (fun _ k => XS.aloadN X69.here hx rfl (hb hby d1_72) rfl rfl k) ?_
                    obtain ⟨T71, X71, e71, st71⟩ := getS2 X69 hx hZ (a0 := a0) hown (host := "") (Or.inl (hw _ (List.mem_of_getElem? (i := 26) rfl))) Via.refl e69 S_XML_1_1 (g := (mkF m 73 #[.val (.ref o0), .val (.int p1), .val (.int (1 : Int32)), .unset] [(.ref o0)])) rfl (hb hby d1_73)
                    refine Dn.by (U' := T71.setTop (mkF m 76 #[.val (.ref o0), .val (.int p1), .val (.int (1 : Int32)), .unset] [(.ref s_XML_1_1), (.ref o0)])) st71 ?_
                    by_cases c76_72 : o0 = s_XML_1_1
                    ·
                      refine Dn.by (U' := T71.setTop (mkF m 79 #[.val (.ref o0), .val (.int p1), .val (.int (1 : Int32)), .unset] [])) (fun _ k => Jvm.RoadKit.acmp (g := (mkF m 76 #[.val (.ref o0), .val (.int p1), .val (.int (1 : Int32)), .unset] [(.ref s_XML_1_1), (.ref o0)])) X71 hx rfl rfl rfl (pc0 := 76) (pc' := 79) (same := true) rfl (hb hby d1_76) rfl (decide_eq_true (congrArg Value.ref c76_72)) (by decide) (by decide) k) ?_
                      refine Dn.by (U' := T71.setTop (mkF m 80 #[.val (.ref o0), .val (.int p1), .val (.int (1 : Int32)), .unset] [(.int (1 : Int32))])) (fun _ k => XS.iloadN X71.here hx rfl (hb hby d1_79) rfl k) ?_
                      refine Dn.by (U' := T71.setTop (mkF m 94 #[.val (.ref o0), .val (.int p1), .val (.int (1 : Int32)), .unset] [])) (fun _ k => XS.ifYes X71.here hx rfl (pc0 := 80) (pc' := 94) rfl (hb hby d1_80) rfl (by decide) (by decide) (by decide) k) ?_
                      refine Dn.by (U' := T71.setTop (mkF m 95 #[.val (.ref o0), .val (.int p1), .val (.int (1 : Int32)), .unset] [(.int (1 : Int32))])) (fun _ k => XS.iconst X71.here hx rfl (hb hby d1_94)  k) ?_
                      refine Dn.by (U' := T71.setTop (mkF m 99 #[.val (.ref o0), .val (.int p1), .val (.int (1 : Int32)), .unset] [(.int (1 : Int32))])) (fun _ k => XS.goto X71.here hx rfl (pc0 := 95) (pc' := 99) rfl (hb hby d1_95) (by decide) (by decide) k) ?_
                      refine Dn.by (U' := T71.setTop (mkF m 100 #[.val (.ref o0), .val (.int p1), .val (.int (1 : Int32)), .val (.int (1 : Int32))] [])) (fun _ k => XS.istoreN X71.here hx rfl (hb hby d1_99) rfl (l' := #[.val (.ref o0), .val (.int p1), .val (.int (1 : Int32)), .val (.int (1 : Int32))]) rfl k) ?_
                      refine Dn.by (U' := T71.setTop (mkF m 105 #[.val (.ref o0), .val (.int p1), .val (.int (1 : Int32)), .val (.int (1 : Int32))] [])) (fun _ k => XS.goto X71.here hx rfl (pc0 := 100) (pc' := 105) rfl (hb hby d1_100) (by decide) (by decide) k) ?_
                      refine Dn.by (U' := T71.setTop (mkF m 106 #[.val (.ref o0), .val (.int p1), .val (.int (1 : Int32)), .val (.int (1 : Int32))] [(.int (1 : Int32))])) (fun _ k => XS.iloadN X71.here hx rfl (hb hby d1_105) rfl k) ?_
                      refine Dn.out X71 (v := (some (.int (1 : Int32)))) (fun h => by rw [Bd.returns] at h; cases h) (BodyLoose.notSynchronized Bd) (fun _ hr => retN X71 hx (t := .boolean) Bd.returns (by simp) (hb hby d1_106) hr) (by decide) (by decide) ?_
                      rw [e71]
                      exact ⟨by simp only [hold, if_neg c3_1, if_neg c9_6, if_neg c15_11, if_neg c21_16, if_pos c27_55, if_pos c33_56, if_neg c45_57, if_neg c51_63, if_neg c64_70, if_pos c76_72], N0, rfl⟩
                    ·
                      refine Dn.by (U' := T71.setTop (mkF m 103 #[.val (.ref o0), .val (.int p1), .val (.int (1 : Int32)), .unset] [])) (fun _ k => Jvm.RoadKit.acmp (g := (mkF m 76 #[.val (.ref o0), .val (.int p1), .val (.int (1 : Int32)), .unset] [(.ref s_XML_1_1), (.ref o0)])) X71 hx rfl rfl rfl (pc0 := 76) (pc' := 103) (same := false) rfl (hb hby d1_76) rfl (decide_eq_false fun q => c76_72 (Value.ref.inj q)) (by decide) (by decide) k) ?_
                      refine Dn.by (U' := T71.setTop (mkF m 104 #[.val (.ref o0), .val (.int p1), .val (.int (1 : Int32)), .unset] [(.int (1 : Int32))])) (fun _ k => XS.iloadN X71.here hx rfl (hb hby d1_103) rfl k) ?_
                      refine Dn.by (U' := T71.setTop (mkF m 105 #[.val (.ref o0), .val (.int p1), .val (.int (1 : Int32)), .val (.int (1 : Int32))] [])) (fun _ k => XS.istoreN X71.here hx rfl (hb hby d1_104) rfl (l' := #[.val (.ref o0), .val (.int p1), .val (.int (1 : Int32)), .val (.int (1 : Int32))]) rfl k) ?_
                      refine Dn.by (U' := T71.setTop (mkF m 106 #[.val (.ref o0), .val (.int p1), .val (.int (1 : Int32)), .val (.int (1 : Int32))] [(.int (1 : Int32))])) (fun _ k => XS.iloadN X71.here hx rfl (hb hby d1_105) rfl k) ?_
                      refine Dn.out X71 (v := (some (.int (1 : Int32)))) (fun h => by rw [Bd.returns] at h; cases h) (BodyLoose.notSynchronized Bd) (fun _ hr => retN X71 hx (t := .boolean) Bd.returns (by simp) (hb hby d1_106) hr) (by decide) (by decide) ?_
                      rw [e71]
                      exact ⟨by simp only [hold, if_neg c3_1, if_neg c9_6, if_neg c15_11, if_neg c21_16, if_pos c27_55, if_pos c33_56, if_neg c45_57, if_neg c51_63, if_neg c64_70, if_neg c76_72], N0, rfl⟩
            ·
              refine Dn.by (U' := s₁.setTop (mkF m 36 #[.val (.ref o0), .val (.int p1), .unset, .unset] [])) (fun _ k => XS.icmpNo X0.here hx rfl (hb hby d1_33) rfl (flt c33_56).1 k) ?_
              refine Dn.by (U' := s₁.setTop (mkF m 37 #[.val (.ref o0), .val (.int p1), .unset, .unset] [(.int p1)])) (fun _ k => XS.iloadN X0.here hx rfl (hb hby d1_36) rfl k) ?_
              refine Dn.by (U' := s₁.setTop (mkF m 39 #[.val (.ref o0), .val (.int p1), .unset, .unset] [(.int (65533 : Int32)), (.int p1)])) (X0.ldcInt hx hown (mvT hZ (hw _ (List.mem_of_getElem? (i := 32) rfl))) (g := (mkF m 37 #[.val (.ref o0), .val (.int p1), .unset, .unset] [(.int p1)])) rfl (hb hby d1_37)) ?_
              by_cases c39_73 : (65533 : Int32) < p1
              ·
                refine Dn.by (U' := s₁.setTop (mkF m 42 #[.val (.ref o0), .val (.int p1), .unset, .unset] [])) (fun _ k => XS.icmpNo X0.here hx rfl (hb hby d1_39) rfl (tlt c39_73).2.2.2 k) ?_
                refine Dn.by (U' := s₁.setTop (mkF m 43 #[.val (.ref o0), .val (.int p1), .unset, .unset] [(.int p1)])) (fun _ k => XS.iloadN X0.here hx rfl (hb hby d1_42) rfl k) ?_
                refine Dn.by (U' := s₁.setTop (mkF m 45 #[.val (.ref o0), .val (.int p1), .unset, .unset] [(.int (65536 : Int32)), (.int p1)])) (X0.ldcInt hx hown (mvT hZ (hw _ (List.mem_of_getElem? (i := 24) rfl))) (g := (mkF m 43 #[.val (.ref o0), .val (.int p1), .unset, .unset] [(.int p1)])) rfl (hb hby d1_43)) ?_
                by_cases c45_74 : p1 < (65536 : Int32)
                ·
                  refine Dn.by (U' := s₁.setTop (mkF m 58 #[.val (.ref o0), .val (.int p1), .unset, .unset] [])) (fun _ k => XS.icmpYes X0.here hx rfl (pc0 := 45) (pc' := 58) rfl (hb hby d1_45) rfl (tlt c45_74).1 (by decide) (by decide) k) ?_
                  refine Dn.by (U' := s₁.setTop (mkF m 59 #[.val (.ref o0), .val (.int p1), .unset, .unset] [(.int (0 : Int32))])) (fun _ k => XS.iconst X0.here hx rfl (hb hby d1_58)  k) ?_
                  refine Dn.by (U' := s₁.setTop (mkF m 60 #[.val (.ref o0), .val (.int p1), .val (.int (0 : Int32)), .unset] [])) (fun _ k => XS.istoreN X0.here hx rfl (hb hby d1_59) rfl (l' := #[.val (.ref o0), .val (.int p1), .val (.int (0 : Int32)), .unset]) rfl k) ?_
                  refine Dn.by (U' := s₁.setTop (mkF m 61 #[.val (.ref o0), .val (.int p1), .val (.int (0 : Int32)), .unset] [(.ref o0)])) (fun _ k => XS.aloadN X0.here hx rfl (hb hby d1_60) rfl rfl k) ?_
                  obtain ⟨T75, X75, e75, st75⟩ := getS2 X0 hx hZ (a0 := a0) hown (host := "") (Or.inl (hw _ (List.mem_of_getElem? (i := 25) rfl))) Via.refl e0 S_HTML (g := (mkF m 61 #[.val (.ref o0), .val (.int p1), .val (.int (0 : Int32)), .unset] [(.ref o0)])) rfl (hb hby d1_61)
                  refine Dn.by (U' := T75.setTop (mkF m 64 #[.val (.ref o0), .val (.int p1), .val (.int (0 : Int32)), .unset] [(.ref s_HTML), (.ref o0)])) st75 ?_
                  by_cases c64_76 : o0 = s_HTML
                  ·
                    refine Dn.by (U' := T75.setTop (mkF m 67 #[.val (.ref o0), .val (.int p1), .val (.int (0 : Int32)), .unset] [])) (fun _ k => Jvm.RoadKit.acmp (g := (mkF m 64 #[.val (.ref o0), .val (.int p1), .val (.int (0 : Int32)), .unset] [(.ref s_HTML), (.ref o0)])) X75 hx rfl rfl rfl (pc0 := 64) (pc' := 67) (same := true) rfl (hb hby d1_64) rfl (decide_eq_true (congrArg Value.ref c64_76)) (by decide) (by decide) k) ?_
                    refine Dn.by (U' := T75.setTop (mkF m 68 #[.val (.ref o0), .val (.int p1), .val (.int (0 : Int32)), .unset] [(.int (1 : Int32))])) (fun _ k => XS.iconst X75.here hx rfl (hb hby d1_67)  k) ?_
                    refine Dn.by (U' := T75.setTop (mkF m 69 #[.val (.ref o0), .val (.int p1), .val (.int (0 : Int32)), .val (.int (1 : Int32))] [])) (fun _ k => XS.istoreN X75.here hx rfl (hb hby d1_68) rfl (l' := #[.val (.ref o0), .val (.int p1), .val (.int (0 : Int32)), .val (.int (1 : Int32))]) rfl k) ?_
                    refine Dn.by (U' := T75.setTop (mkF m 105 #[.val (.ref o0), .val (.int p1), .val (.int (0 : Int32)), .val (.int (1 : Int32))] [])) (fun _ k => XS.goto X75.here hx rfl (pc0 := 69) (pc' := 105) rfl (hb hby d1_69) (by decide) (by decide) k) ?_
                    refine Dn.by (U' := T75.setTop (mkF m 106 #[.val (.ref o0), .val (.int p1), .val (.int (0 : Int32)), .val (.int (1 : Int32))] [(.int (1 : Int32))])) (fun _ k => XS.iloadN X75.here hx rfl (hb hby d1_105) rfl k) ?_
                    refine Dn.out X75 (v := (some (.int (1 : Int32)))) (fun h => by rw [Bd.returns] at h; cases h) (BodyLoose.notSynchronized Bd) (fun _ hr => retN X75 hx (t := .boolean) Bd.returns (by simp) (hb hby d1_106) hr) (by decide) (by decide) ?_
                    rw [e75]
                    exact ⟨by simp only [hold, if_neg c3_1, if_neg c9_6, if_neg c15_11, if_neg c21_16, if_pos c27_55, if_neg c33_56, if_pos c39_73, if_pos c45_74, if_pos c64_76], N0, rfl⟩
                  ·
                    refine Dn.by (U' := T75.setTop (mkF m 72 #[.val (.ref o0), .val (.int p1), .val (.int (0 : Int32)), .unset] [])) (fun _ k => Jvm.RoadKit.acmp (g := (mkF m 64 #[.val (.ref o0), .val (.int p1), .val (.int (0 : Int32)), .unset] [(.ref s_HTML), (.ref o0)])) X75 hx rfl rfl rfl (pc0 := 64) (pc' := 72) (same := false) rfl (hb hby d1_64) rfl (decide_eq_false fun q => c64_76 (Value.ref.inj q)) (by decide) (by decide) k) ?_
                    refine Dn.by (U' := T75.setTop (mkF m 73 #[.val (.ref o0), .val (.int p1), .val (.int (0 : Int32)), .unset] [(.ref o0)])) (fun _ k => XS.aloadN X75.here hx rfl (hb hby d1_72) rfl rfl k) ?_
                    obtain ⟨T77, X77, e77, st77⟩ := getS2 X75 hx hZ (a0 := a0) hown (host := "") (Or.inl (hw _ (List.mem_of_getElem? (i := 26) rfl))) Via.refl e75 S_XML_1_1 (g := (mkF m 73 #[.val (.ref o0), .val (.int p1), .val (.int (0 : Int32)), .unset] [(.ref o0)])) rfl (hb hby d1_73)
                    refine Dn.by (U' := T77.setTop (mkF m 76 #[.val (.ref o0), .val (.int p1), .val (.int (0 : Int32)), .unset] [(.ref s_XML_1_1), (.ref o0)])) st77 ?_
                    by_cases c76_78 : o0 = s_XML_1_1
                    ·
                      refine Dn.by (U' := T77.setTop (mkF m 79 #[.val (.ref o0), .val (.int p1), .val (.int (0 : Int32)), .unset] [])) (fun _ k => Jvm.RoadKit.acmp (g := (mkF m 76 #[.val (.ref o0), .val (.int p1), .val (.int (0 : Int32)), .unset] [(.ref s_XML_1_1), (.ref o0)])) X77 hx rfl rfl rfl (pc0 := 76) (pc' := 79) (same := true) rfl (hb hby d1_76) rfl (decide_eq_true (congrArg Value.ref c76_78)) (by decide) (by decide) k) ?_
                      refine Dn.by (U' := T77.setTop (mkF m 80 #[.val (.ref o0), .val (.int p1), .val (.int (0 : Int32)), .unset] [(.int (0 : Int32))])) (fun _ k => XS.iloadN X77.here hx rfl (hb hby d1_79) rfl k) ?_
                      refine Dn.by (U' := T77.setTop (mkF m 83 #[.val (.ref o0), .val (.int p1), .val (.int (0 : Int32)), .unset] [])) (fun _ k => XS.ifNo X77.here hx rfl (hb hby d1_80) rfl (by decide) k) ?_
                      refine Dn.by (U' := T77.setTop (mkF m 84 #[.val (.ref o0), .val (.int p1), .val (.int (0 : Int32)), .unset] [(.int p1)])) (fun _ k => XS.iloadN X77.here hx rfl (hb hby d1_83) rfl k) ?_
                      refine Dn.by (U' := T77.setTop (mkF m 85 #[.val (.ref o0), .val (.int p1), .val (.int (0 : Int32)), .unset] [(.int (1 : Int32)), (.int p1)])) (fun _ k => XS.iconst X77.here hx rfl (hb hby d1_84)  k) ?_
                      by_cases c85_79 : p1 < (1 : Int32)
                      ·
                        refine Dn.by (U' := T77.setTop (mkF m 98 #[.val (.ref o0), .val (.int p1), .val (.int (0 : Int32)), .unset] [])) (fun _ k => XS.icmpYes X77.here hx rfl (pc0 := 85) (pc' := 98) rfl (hb hby d1_85) rfl (tlt c85_79).1 (by decide) (by decide) k) ?_
                        refine Dn.by (U' := T77.setTop (mkF m 99 #[.val (.ref o0), .val (.int p1), .val (.int (0 : Int32)), .unset] [(.int (0 : Int32))])) (fun _ k => XS.iconst X77.here hx rfl (hb hby d1_98)  k) ?_
                        refine Dn.by (U' := T77.setTop (mkF m 100 #[.val (.ref o0), .val (.int p1), .val (.int (0 : Int32)), .val (.int (0 : Int32))] [])) (fun _ k => XS.istoreN X77.here hx rfl (hb hby d1_99) rfl (l' := #[.val (.ref o0), .val (.int p1), .val (.int (0 : Int32)), .val (.int (0 : Int32))]) rfl k) ?_
                        refine Dn.by (U' := T77.setTop (mkF m 105 #[.val (.ref o0), .val (.int p1), .val (.int (0 : Int32)), .val (.int (0 : Int32))] [])) (fun _ k => XS.goto X77.here hx rfl (pc0 := 100) (pc' := 105) rfl (hb hby d1_100) (by decide) (by decide) k) ?_
                        refine Dn.by (U' := T77.setTop (mkF m 106 #[.val (.ref o0), .val (.int p1), .val (.int (0 : Int32)), .val (.int (0 : Int32))] [(.int (0 : Int32))])) (fun _ k => XS.iloadN X77.here hx rfl (hb hby d1_105) rfl k) ?_
                        refine Dn.out X77 (v := (some (.int (0 : Int32)))) (fun h => by rw [Bd.returns] at h; cases h) (BodyLoose.notSynchronized Bd) (fun _ hr => retN X77 hx (t := .boolean) Bd.returns (by simp) (hb hby d1_106) hr) (by decide) (by decide) ?_
                        rw [e77]
                        exact ⟨by simp only [hold, if_neg c3_1, if_neg c9_6, if_neg c15_11, if_neg c21_16, if_pos c27_55, if_neg c33_56, if_pos c39_73, if_pos c45_74, if_neg c64_76, if_pos c76_78, if_pos c85_79], N0, rfl⟩
                      ·
                        refine Dn.by (U' := T77.setTop (mkF m 88 #[.val (.ref o0), .val (.int p1), .val (.int (0 : Int32)), .unset] [])) (fun _ k => XS.icmpNo X77.here hx rfl (hb hby d1_85) rfl (flt c85_79).1 k) ?_
                        refine Dn.by (U' := T77.setTop (mkF m 89 #[.val (.ref o0), .val (.int p1), .val (.int (0 : Int32)), .unset] [(.int p1)])) (fun _ k => XS.iloadN X77.here hx rfl (hb hby d1_88) rfl k) ?_
                        refine Dn.by (U' := T77.setTop (mkF m 91 #[.val (.ref o0), .val (.int p1), .val (.int (0 : Int32)), .unset] [(.int (32 : Int32)), (.int p1)])) (fun _ k => XS.bipush X77.here hx rfl (hb hby d1_89)  k) ?_
                        refine Dn.by (U' := T77.setTop (mkF m 98 #[.val (.ref o0), .val (.int p1), .val (.int (0 : Int32)), .unset] [])) (fun _ k => XS.icmpYes X77.here hx rfl (pc0 := 91) (pc' := 98) rfl (hb hby d1_91) rfl (flt c21_16).2.1 (by decide) (by decide) k) ?_
                        refine Dn.by (U' := T77.setTop (mkF m 99 #[.val (.ref o0), .val (.int p1), .val (.int (0 : Int32)), .unset] [(.int (0 : Int32))])) (fun _ k => XS.iconst X77.here hx rfl (hb hby d1_98)  k) ?_
                        refine Dn.by (U' := T77.setTop (mkF m 100 #[.val (.ref o0), .val (.int p1), .val (.int (0 : Int32)), .val (.int (0 : Int32))] [])) (fun _ k => XS.istoreN X77.here hx rfl (hb hby d1_99) rfl (l' := #[.val (.ref o0), .val (.int p1), .val (.int (0 : Int32)), .val (.int (0 : Int32))]) rfl k) ?_
                        refine Dn.by (U' := T77.setTop (mkF m 105 #[.val (.ref o0), .val (.int p1), .val (.int (0 : Int32)), .val (.int (0 : Int32))] [])) (fun _ k => XS.goto X77.here hx rfl (pc0 := 100) (pc' := 105) rfl (hb hby d1_100) (by decide) (by decide) k) ?_
                        refine Dn.by (U' := T77.setTop (mkF m 106 #[.val (.ref o0), .val (.int p1), .val (.int (0 : Int32)), .val (.int (0 : Int32))] [(.int (0 : Int32))])) (fun _ k => XS.iloadN X77.here hx rfl (hb hby d1_105) rfl k) ?_
                        refine Dn.out X77 (v := (some (.int (0 : Int32)))) (fun h => by rw [Bd.returns] at h; cases h) (BodyLoose.notSynchronized Bd) (fun _ hr => retN X77 hx (t := .boolean) Bd.returns (by simp) (hb hby d1_106) hr) (by decide) (by decide) ?_
                        rw [e77]
                        exact ⟨by simp only [hold, if_neg c3_1, if_neg c9_6, if_neg c15_11, if_neg c21_16, if_pos c27_55, if_neg c33_56, if_pos c39_73, if_pos c45_74, if_neg c64_76, if_pos c76_78, if_neg c85_79], N0, rfl⟩
                    ·
                      refine Dn.by (U' := T77.setTop (mkF m 103 #[.val (.ref o0), .val (.int p1), .val (.int (0 : Int32)), .unset] [])) (fun _ k => Jvm.RoadKit.acmp (g := (mkF m 76 #[.val (.ref o0), .val (.int p1), .val (.int (0 : Int32)), .unset] [(.ref s_XML_1_1), (.ref o0)])) X77 hx rfl rfl rfl (pc0 := 76) (pc' := 103) (same := false) rfl (hb hby d1_76) rfl (decide_eq_false fun q => c76_78 (Value.ref.inj q)) (by decide) (by decide) k) ?_
                      refine Dn.by (U' := T77.setTop (mkF m 104 #[.val (.ref o0), .val (.int p1), .val (.int (0 : Int32)), .unset] [(.int (0 : Int32))])) (fun _ k => XS.iloadN X77.here hx rfl (hb hby d1_103) rfl k) ?_
                      refine Dn.by (U' := T77.setTop (mkF m 105 #[.val (.ref o0), .val (.int p1), .val (.int (0 : Int32)), .val (.int (0 : Int32))] [])) (fun _ k => XS.istoreN X77.here hx rfl (hb hby d1_104) rfl (l' := #[.val (.ref o0), .val (.int p1), .val (.int (0 : Int32)), .val (.int (0 : Int32))]) rfl k) ?_
                      refine Dn.by (U' := T77.setTop (mkF m 106 #[.val (.ref o0), .val (.int p1), .val (.int (0 : Int32)), .val (.int (0 : Int32))] [(.int (0 : Int32))])) (fun _ k => XS.iloadN X77.here hx rfl (hb hby d1_105) rfl k) ?_
                      refine Dn.out X77 (v := (some (.int (0 : Int32)))) (fun h => by rw [Bd.returns] at h; cases h) (BodyLoose.notSynchronized Bd) (fun _ hr => retN X77 hx (t := .boolean) Bd.returns (by simp) (hb hby d1_106) hr) (by decide) (by decide) ?_
                      rw [e77]
                      exact ⟨by simp only [hold, if_neg c3_1, if_neg c9_6, if_neg c15_11, if_neg c21_16, if_pos c27_55, if_neg c33_56, if_pos c39_73, if_pos c45_74, if_neg c64_76, if_neg c76_78], N0, rfl⟩
                ·
                  refine Dn.by (U' := s₁.setTop (mkF m 48 #[.val (.ref o0), .val (.int p1), .unset, .unset] [])) (fun _ k => XS.icmpNo X0.here hx rfl (hb hby d1_45) rfl (flt c45_74).1 k) ?_
                  refine Dn.by (U' := s₁.setTop (mkF m 49 #[.val (.ref o0), .val (.int p1), .unset, .unset] [(.int p1)])) (fun _ k => XS.iloadN X0.here hx rfl (hb hby d1_48) rfl k) ?_
                  refine Dn.by (U' := s₁.setTop (mkF m 51 #[.val (.ref o0), .val (.int p1), .unset, .unset] [(.int (1114111 : Int32)), (.int p1)])) (X0.ldcInt hx hown (mvT hZ (hw _ (List.mem_of_getElem? (i := 33) rfl))) (g := (mkF m 49 #[.val (.ref o0), .val (.int p1), .unset, .unset] [(.int p1)])) rfl (hb hby d1_49)) ?_
                  by_cases c51_80 : (1114111 : Int32) < p1
                  ·
                    refine Dn.by (U' := s₁.setTop (mkF m 58 #[.val (.ref o0), .val (.int p1), .unset, .unset] [])) (fun _ k => XS.icmpYes X0.here hx rfl (pc0 := 51) (pc' := 58) rfl (hb hby d1_51) rfl (tlt c51_80).2.2.1 (by decide) (by decide) k) ?_
                    refine Dn.by (U' := s₁.setTop (mkF m 59 #[.val (.ref o0), .val (.int p1), .unset, .unset] [(.int (0 : Int32))])) (fun _ k => XS.iconst X0.here hx rfl (hb hby d1_58)  k) ?_
                    refine Dn.by (U' := s₁.setTop (mkF m 60 #[.val (.ref o0), .val (.int p1), .val (.int (0 : Int32)), .unset] [])) (fun _ k => XS.istoreN X0.here hx rfl (hb hby d1_59) rfl (l' := #[.val (.ref o0), .val (.int p1), .val (.int (0 : Int32)), .unset]) rfl k) ?_
                    refine Dn.by (U' := s₁.setTop (mkF m 61 #[.val (.ref o0), .val (.int p1), .val (.int (0 : Int32)), .unset] [(.ref o0)])) (fun _ k => XS.aloadN X0.here hx rfl (hb hby d1_60) rfl rfl k) ?_
                    obtain ⟨T81, X81, e81, st81⟩ := getS2 X0 hx hZ (a0 := a0) hown (host := "") (Or.inl (hw _ (List.mem_of_getElem? (i := 25) rfl))) Via.refl e0 S_HTML (g := (mkF m 61 #[.val (.ref o0), .val (.int p1), .val (.int (0 : Int32)), .unset] [(.ref o0)])) rfl (hb hby d1_61)
                    refine Dn.by (U' := T81.setTop (mkF m 64 #[.val (.ref o0), .val (.int p1), .val (.int (0 : Int32)), .unset] [(.ref s_HTML), (.ref o0)])) st81 ?_
                    by_cases c64_82 : o0 = s_HTML
                    ·
                      refine Dn.by (U' := T81.setTop (mkF m 67 #[.val (.ref o0), .val (.int p1), .val (.int (0 : Int32)), .unset] [])) (fun _ k => Jvm.RoadKit.acmp (g := (mkF m 64 #[.val (.ref o0), .val (.int p1), .val (.int (0 : Int32)), .unset] [(.ref s_HTML), (.ref o0)])) X81 hx rfl rfl rfl (pc0 := 64) (pc' := 67) (same := true) rfl (hb hby d1_64) rfl (decide_eq_true (congrArg Value.ref c64_82)) (by decide) (by decide) k) ?_
                      refine Dn.by (U' := T81.setTop (mkF m 68 #[.val (.ref o0), .val (.int p1), .val (.int (0 : Int32)), .unset] [(.int (1 : Int32))])) (fun _ k => XS.iconst X81.here hx rfl (hb hby d1_67)  k) ?_
                      refine Dn.by (U' := T81.setTop (mkF m 69 #[.val (.ref o0), .val (.int p1), .val (.int (0 : Int32)), .val (.int (1 : Int32))] [])) (fun _ k => XS.istoreN X81.here hx rfl (hb hby d1_68) rfl (l' := #[.val (.ref o0), .val (.int p1), .val (.int (0 : Int32)), .val (.int (1 : Int32))]) rfl k) ?_
                      refine Dn.by (U' := T81.setTop (mkF m 105 #[.val (.ref o0), .val (.int p1), .val (.int (0 : Int32)), .val (.int (1 : Int32))] [])) (fun _ k => XS.goto X81.here hx rfl (pc0 := 69) (pc' := 105) rfl (hb hby d1_69) (by decide) (by decide) k) ?_
                      refine Dn.by (U' := T81.setTop (mkF m 106 #[.val (.ref o0), .val (.int p1), .val (.int (0 : Int32)), .val (.int (1 : Int32))] [(.int (1 : Int32))])) (fun _ k => XS.iloadN X81.here hx rfl (hb hby d1_105) rfl k) ?_
                      refine Dn.out X81 (v := (some (.int (1 : Int32)))) (fun h => by rw [Bd.returns] at h; cases h) (BodyLoose.notSynchronized Bd) (fun _ hr => retN X81 hx (t := .boolean) Bd.returns (by simp) (hb hby d1_106) hr) (by decide) (by decide) ?_
                      rw [e81]
                      exact ⟨by simp only [hold, if_neg c3_1, if_neg c9_6, if_neg c15_11, if_neg c21_16, if_pos c27_55, if_neg c33_56, if_pos c39_73, if_neg c45_74, if_pos c51_80, if_pos c64_82], N0, rfl⟩
                    ·
                      refine Dn.by (U' := T81.setTop (mkF m 72 #[.val (.ref o0), .val (.int p1), .val (.int (0 : Int32)), .unset] [])) (fun _ k => Jvm.RoadKit.acmp (g := (mkF m 64 #[.val (.ref o0), .val (.int p1), .val (.int (0 : Int32)), .unset] [(.ref s_HTML), (.ref o0)])) X81 hx rfl rfl rfl (pc0 := 64) (pc' := 72) (same := false) rfl (hb hby d1_64) rfl (decide_eq_false fun q => c64_82 (Value.ref.inj q)) (by decide) (by decide) k) ?_
                      refine Dn.by (U' := T81.setTop (mkF m 73 #[.val (.ref o0), .val (.int p1), .val (.int (0 : Int32)), .unset] [(.ref o0)])) (fun _ k => XS.aloadN X81.here hx rfl (hb hby d1_72) rfl rfl k) ?_
                      obtain ⟨T83, X83, e83, st83⟩ := getS2 X81 hx hZ (a0 := a0) hown (host := "") (Or.inl (hw _ (List.mem_of_getElem? (i := 26) rfl))) Via.refl e81 S_XML_1_1 (g := (mkF m 73 #[.val (.ref o0), .val (.int p1), .val (.int (0 : Int32)), .unset] [(.ref o0)])) rfl (hb hby d1_73)
                      refine Dn.by (U' := T83.setTop (mkF m 76 #[.val (.ref o0), .val (.int p1), .val (.int (0 : Int32)), .unset] [(.ref s_XML_1_1), (.ref o0)])) st83 ?_
                      by_cases c76_84 : o0 = s_XML_1_1
                      ·
                        refine Dn.by (U' := T83.setTop (mkF m 79 #[.val (.ref o0), .val (.int p1), .val (.int (0 : Int32)), .unset] [])) (fun _ k => Jvm.RoadKit.acmp (g := (mkF m 76 #[.val (.ref o0), .val (.int p1), .val (.int (0 : Int32)), .unset] [(.ref s_XML_1_1), (.ref o0)])) X83 hx rfl rfl rfl (pc0 := 76) (pc' := 79) (same := true) rfl (hb hby d1_76) rfl (decide_eq_true (congrArg Value.ref c76_84)) (by decide) (by decide) k) ?_
                        refine Dn.by (U' := T83.setTop (mkF m 80 #[.val (.ref o0), .val (.int p1), .val (.int (0 : Int32)), .unset] [(.int (0 : Int32))])) (fun _ k => XS.iloadN X83.here hx rfl (hb hby d1_79) rfl k) ?_
                        refine Dn.by (U' := T83.setTop (mkF m 83 #[.val (.ref o0), .val (.int p1), .val (.int (0 : Int32)), .unset] [])) (fun _ k => XS.ifNo X83.here hx rfl (hb hby d1_80) rfl (by decide) k) ?_
                        refine Dn.by (U' := T83.setTop (mkF m 84 #[.val (.ref o0), .val (.int p1), .val (.int (0 : Int32)), .unset] [(.int p1)])) (fun _ k => XS.iloadN X83.here hx rfl (hb hby d1_83) rfl k) ?_
                        refine Dn.by (U' := T83.setTop (mkF m 85 #[.val (.ref o0), .val (.int p1), .val (.int (0 : Int32)), .unset] [(.int (1 : Int32)), (.int p1)])) (fun _ k => XS.iconst X83.here hx rfl (hb hby d1_84)  k) ?_
                        by_cases c85_85 : p1 < (1 : Int32)
                        ·
                          refine Dn.by (U' := T83.setTop (mkF m 98 #[.val (.ref o0), .val (.int p1), .val (.int (0 : Int32)), .unset] [])) (fun _ k => XS.icmpYes X83.here hx rfl (pc0 := 85) (pc' := 98) rfl (hb hby d1_85) rfl (tlt c85_85).1 (by decide) (by decide) k) ?_
                          refine Dn.by (U' := T83.setTop (mkF m 99 #[.val (.ref o0), .val (.int p1), .val (.int (0 : Int32)), .unset] [(.int (0 : Int32))])) (fun _ k => XS.iconst X83.here hx rfl (hb hby d1_98)  k) ?_
                          refine Dn.by (U' := T83.setTop (mkF m 100 #[.val (.ref o0), .val (.int p1), .val (.int (0 : Int32)), .val (.int (0 : Int32))] [])) (fun _ k => XS.istoreN X83.here hx rfl (hb hby d1_99) rfl (l' := #[.val (.ref o0), .val (.int p1), .val (.int (0 : Int32)), .val (.int (0 : Int32))]) rfl k) ?_
                          refine Dn.by (U' := T83.setTop (mkF m 105 #[.val (.ref o0), .val (.int p1), .val (.int (0 : Int32)), .val (.int (0 : Int32))] [])) (fun _ k => XS.goto X83.here hx rfl (pc0 := 100) (pc' := 105) rfl (hb hby d1_100) (by decide) (by decide) k) ?_
                          refine Dn.by (U' := T83.setTop (mkF m 106 #[.val (.ref o0), .val (.int p1), .val (.int (0 : Int32)), .val (.int (0 : Int32))] [(.int (0 : Int32))])) (fun _ k => XS.iloadN X83.here hx rfl (hb hby d1_105) rfl k) ?_
                          refine Dn.out X83 (v := (some (.int (0 : Int32)))) (fun h => by rw [Bd.returns] at h; cases h) (BodyLoose.notSynchronized Bd) (fun _ hr => retN X83 hx (t := .boolean) Bd.returns (by simp) (hb hby d1_106) hr) (by decide) (by decide) ?_
                          rw [e83]
                          exact ⟨by simp only [hold, if_neg c3_1, if_neg c9_6, if_neg c15_11, if_neg c21_16, if_pos c27_55, if_neg c33_56, if_pos c39_73, if_neg c45_74, if_pos c51_80, if_neg c64_82, if_pos c76_84, if_pos c85_85], N0, rfl⟩
                        ·
                          refine Dn.by (U' := T83.setTop (mkF m 88 #[.val (.ref o0), .val (.int p1), .val (.int (0 : Int32)), .unset] [])) (fun _ k => XS.icmpNo X83.here hx rfl (hb hby d1_85) rfl (flt c85_85).1 k) ?_
                          refine Dn.by (U' := T83.setTop (mkF m 89 #[.val (.ref o0), .val (.int p1), .val (.int (0 : Int32)), .unset] [(.int p1)])) (fun _ k => XS.iloadN X83.here hx rfl (hb hby d1_88) rfl k) ?_
                          refine Dn.by (U' := T83.setTop (mkF m 91 #[.val (.ref o0), .val (.int p1), .val (.int (0 : Int32)), .unset] [(.int (32 : Int32)), (.int p1)])) (fun _ k => XS.bipush X83.here hx rfl (hb hby d1_89)  k) ?_
                          refine Dn.by (U' := T83.setTop (mkF m 98 #[.val (.ref o0), .val (.int p1), .val (.int (0 : Int32)), .unset] [])) (fun _ k => XS.icmpYes X83.here hx rfl (pc0 := 91) (pc' := 98) rfl (hb hby d1_91) rfl (flt c21_16).2.1 (by decide) (by decide) k) ?_
                          refine Dn.by (U' := T83.setTop (mkF m 99 #[.val (.ref o0), .val (.int p1), .val (.int (0 : Int32)), .unset] [(.int (0 : Int32))])) (fun _ k => XS.iconst X83.here hx rfl (hb hby d1_98)  k) ?_
                          refine Dn.by (U' := T83.setTop (mkF m 100 #[.val (.ref o0), .val (.int p1), .val (.int (0 : Int32)), .val (.int (0 : Int32))] [])) (fun _ k => XS.istoreN X83.here hx rfl (hb hby d1_99) rfl (l' := #[.val (.ref o0), .val (.int p1), .val (.int (0 : Int32)), .val (.int (0 : Int32))]) rfl k) ?_
                          refine Dn.by (U' := T83.setTop (mkF m 105 #[.val (.ref o0), .val (.int p1), .val (.int (0 : Int32)), .val (.int (0 : Int32))] [])) (fun _ k => XS.goto X83.here hx rfl (pc0 := 100) (pc' := 105) rfl (hb hby d1_100) (by decide) (by decide) k) ?_
                          refine Dn.by (U' := T83.setTop (mkF m 106 #[.val (.ref o0), .val (.int p1), .val (.int (0 : Int32)), .val (.int (0 : Int32))] [(.int (0 : Int32))])) (fun _ k => XS.iloadN X83.here hx rfl (hb hby d1_105) rfl k) ?_
                          refine Dn.out X83 (v := (some (.int (0 : Int32)))) (fun h => by rw [Bd.returns] at h; cases h) (BodyLoose.notSynchronized Bd) (fun _ hr => retN X83 hx (t := .boolean) Bd.returns (by simp) (hb hby d1_106) hr) (by decide) (by decide) ?_
                          rw [e83]
                          exact ⟨by simp only [hold, if_neg c3_1, if_neg c9_6, if_neg c15_11, if_neg c21_16, if_pos c27_55, if_neg c33_56, if_pos c39_73, if_neg c45_74, if_pos c51_80, if_neg c64_82, if_pos c76_84, if_neg c85_85], N0, rfl⟩
                      ·
                        refine Dn.by (U' := T83.setTop (mkF m 103 #[.val (.ref o0), .val (.int p1), .val (.int (0 : Int32)), .unset] [])) (fun _ k => Jvm.RoadKit.acmp (g := (mkF m 76 #[.val (.ref o0), .val (.int p1), .val (.int (0 : Int32)), .unset] [(.ref s_XML_1_1), (.ref o0)])) X83 hx rfl rfl rfl (pc0 := 76) (pc' := 103) (same := false) rfl (hb hby d1_76) rfl (decide_eq_false fun q => c76_84 (Value.ref.inj q)) (by decide) (by decide) k) ?_
                        refine Dn.by (U' := T83.setTop (mkF m 104 #[.val (.ref o0), .val (.int p1), .val (.int (0 : Int32)), .unset] [(.int (0 : Int32))])) (fun _ k => XS.iloadN X83.here hx rfl (hb hby d1_103) rfl k) ?_
                        refine Dn.by (U' := T83.setTop (mkF m 105 #[.val (.ref o0), .val (.int p1), .val (.int (0 : Int32)), .val (.int (0 : Int32))] [])) (fun _ k => XS.istoreN X83.here hx rfl (hb hby d1_104) rfl (l' := #[.val (.ref o0), .val (.int p1), .val (.int (0 : Int32)), .val (.int (0 : Int32))]) rfl k) ?_
                        refine Dn.by (U' := T83.setTop (mkF m 106 #[.val (.ref o0), .val (.int p1), .val (.int (0 : Int32)), .val (.int (0 : Int32))] [(.int (0 : Int32))])) (fun _ k => XS.iloadN X83.here hx rfl (hb hby d1_105) rfl k) ?_
                        refine Dn.out X83 (v := (some (.int (0 : Int32)))) (fun h => by rw [Bd.returns] at h; cases h) (BodyLoose.notSynchronized Bd) (fun _ hr => retN X83 hx (t := .boolean) Bd.returns (by simp) (hb hby d1_106) hr) (by decide) (by decide) ?_
                        rw [e83]
                        exact ⟨by simp only [hold, if_neg c3_1, if_neg c9_6, if_neg c15_11, if_neg c21_16, if_pos c27_55, if_neg c33_56, if_pos c39_73, if_neg c45_74, if_pos c51_80, if_neg c64_82, if_neg c76_84], N0, rfl⟩
                  ·
                    refine Dn.by (U' := s₁.setTop (mkF m 54 #[.val (.ref o0), .val (.int p1), .unset, .unset] [])) (fun _ k => XS.icmpNo X0.here hx rfl (hb hby d1_51) rfl (flt c51_80).2.2.1 k) ?_
                    refine Dn.by (U' := s₁.setTop (mkF m 55 #[.val (.ref o0), .val (.int p1), .unset, .unset] [(.int (1 : Int32))])) (fun _ k => XS.iconst X0.here hx rfl (hb hby d1_54)  k) ?_
                    refine Dn.by (U' := s₁.setTop (mkF m 59 #[.val (.ref o0), .val (.int p1), .unset, .unset] [(.int (1 : Int32))])) (fun _ k => XS.goto X0.here hx rfl (pc0 := 55) (pc' := 59) rfl (hb hby d1_55) (by decide) (by decide) k) ?_
                    refine Dn.by (U' := s₁.setTop (mkF m 60 #[.val (.ref o0), .val (.int p1), .val (.int (1 : Int32)), .unset] [])) (fun _ k => XS.istoreN X0.here hx rfl (hb hby d1_59) rfl (l' := #[.val (.ref o0), .val (.int p1), .val (.int (1 : Int32)), .unset]) rfl k) ?_
                    refine Dn.by (U' := s₁.setTop (mkF m 61 #[.val (.ref o0), .val (.int p1), .val (.int (1 : Int32)), .unset] [(.ref o0)])) (fun _ k => XS.aloadN X0.here hx rfl (hb hby d1_60) rfl rfl k) ?_
                    obtain ⟨T86, X86, e86, st86⟩ := getS2 X0 hx hZ (a0 := a0) hown (host := "") (Or.inl (hw _ (List.mem_of_getElem? (i := 25) rfl))) Via.refl e0 S_HTML (g := (mkF m 61 #[.val (.ref o0), .val (.int p1), .val (.int (1 : Int32)), .unset] [(.ref o0)])) rfl (hb hby d1_61)
                    refine Dn.by (U' := T86.setTop (mkF m 64 #[.val (.ref o0), .val (.int p1), .val (.int (1 : Int32)), .unset] [(.ref s_HTML), (.ref o0)])) st86 ?_
                    by_cases c64_87 : o0 = s_HTML
                    ·
                      refine Dn.by (U' := T86.setTop (mkF m 67 #[.val (.ref o0), .val (.int p1), .val (.int (1 : Int32)), .unset] [])) (fun _ k => Jvm.RoadKit.acmp (g := (mkF m 64 #[.val (.ref o0), .val (.int p1), .val (.int (1 : Int32)), .unset] [(.ref s_HTML), (.ref o0)])) X86 hx rfl rfl rfl (pc0 := 64) (pc' := 67) (same := true) rfl (hb hby d1_64) rfl (decide_eq_true (congrArg Value.ref c64_87)) (by decide) (by decide) k) ?_
                      refine Dn.by (U' := T86.setTop (mkF m 68 #[.val (.ref o0), .val (.int p1), .val (.int (1 : Int32)), .unset] [(.int (1 : Int32))])) (fun _ k => XS.iconst X86.here hx rfl (hb hby d1_67)  k) ?_
                      refine Dn.by (U' := T86.setTop (mkF m 69 #[.val (.ref o0), .val (.int p1), .val (.int (1 : Int32)), .val (.int (1 : Int32))] [])) (fun _ k => XS.istoreN X86.here hx rfl (hb hby d1_68) rfl (l' := #[.val (.ref o0), .val (.int p1), .val (.int (1 : Int32)), .val (.int (1 : Int32))]) rfl k) ?_
                      refine Dn.by (U' := T86.setTop (mkF m 105 #[.val (.ref o0), .val (.int p1), .val (.int (1 : Int32)), .val (.int (1 : Int32))] [])) (fun _ k => XS.goto X86.here hx rfl (pc0 := 69) (pc' := 105) rfl (hb hby d1_69) (by decide) (by decide) k) ?_
                      refine Dn.by (U' := T86.setTop (mkF m 106 #[.val (.ref o0), .val (.int p1), .val (.int (1 : Int32)), .val (.int (1 : Int32))] [(.int (1 : Int32))])) (fun _ k => XS.iloadN X86.here hx rfl (hb hby d1_105) rfl k) ?_
                      refine Dn.out X86 (v := (some (.int (1 : Int32)))) (fun h => by rw [Bd.returns] at h; cases h) (BodyLoose.notSynchronized Bd) (fun _ hr => retN X86 hx (t := .boolean) Bd.returns (by simp) (hb hby d1_106) hr) (by decide) (by decide) ?_
                      rw [e86]
                      exact ⟨by simp only [hold, if_neg c3_1, if_neg c9_6, if_neg c15_11, if_neg c21_16, if_pos c27_55, if_neg c33_56, if_pos c39_73, if_neg c45_74, if_neg c51_80, if_pos c64_87], N0, rfl⟩
                    ·
                      refine Dn.by (U' := T86.setTop (mkF m 72 #[.val (.ref o0), .val (.int p1), .val (.int (1 : Int32)), .unset] [])) (fun _ k => Jvm.RoadKit.acmp (g := (mkF m 64 #[.val (.ref o0), .val (.int p1), .val (.int (1 : Int32)), .unset] [(.ref s_HTML), (.ref o0)])) X86 hx rfl rfl rfl (pc0 := 64) (pc' := 72) (same := false) rfl (hb hby d1_64) rfl (decide_eq_false fun q => c64_87 (Value.ref.inj q)) (by decide) (by decide) k) ?_
                      refine Dn.by (U' := T86.setTop (mkF m 73 #[.val (.ref o0), .val (.int p1), .val (.int (1 : Int32)), .unset] [(.ref o0)])) (fun _ k => XS.aloadN X86.here hx rfl (hb hby d1_72) rfl rfl k) ?_
                      obtain ⟨T88, X88, e88, st88⟩ := getS2 X86 hx hZ (a0 := a0) hown (host := "") (Or.inl (hw _ (List.mem_of_getElem? (i := 26) rfl))) Via.refl e86 S_XML_1_1 (g := (mkF m 73 #[.val (.ref o0), .val (.int p1), .val (.int (1 : Int32)), .unset] [(.ref o0)])) rfl (hb hby d1_73)
                      refine Dn.by (U' := T88.setTop (mkF m 76 #[.val (.ref o0), .val (.int p1), .val (.int (1 : Int32)), .unset] [(.ref s_XML_1_1), (.ref o0)])) st88 ?_
                      by_cases c76_89 : o0 = s_XML_1_1
                      ·
                        refine Dn.by (U' := T88.setTop (mkF m 79 #[.val (.ref o0), .val (.int p1), .val (.int (1 : Int32)), .unset] [])) (fun _ k => Jvm.RoadKit.acmp (g := (mkF m 76 #[.val (.ref o0), .val (.int p1), .val (.int (1 : Int32)), .unset] [(.ref s_XML_1_1), (.ref o0)])) X88 hx rfl rfl rfl (pc0 := 76) (pc' := 79) (same := true) rfl (hb hby d1_76) rfl (decide_eq_true (congrArg Value.ref c76_89)) (by decide) (by decide) k) ?_
                        refine Dn.by (U' := T88.setTop (mkF m 80 #[.val (.ref o0), .val (.int p1), .val (.int (1 : Int32)), .unset] [(.int (1 : Int32))])) (fun _ k => XS.iloadN X88.here hx rfl (hb hby d1_79) rfl k) ?_
                        refine Dn.by (U' := T88.setTop (mkF m 94 #[.val (.ref o0), .val (.int p1), .val (.int (1 : Int32)), .unset] [])) (fun _ k => XS.ifYes X88.here hx rfl (pc0 := 80) (pc' := 94) rfl (hb hby d1_80) rfl (by decide) (by decide) (by decide) k) ?_
                        refine Dn.by (U' := T88.setTop (mkF m 95 #[.val (.ref o0), .val (.int p1), .val (.int (1 : Int32)), .unset] [(.int (1 : Int32))])) (fun _ k => XS.iconst X88.here hx rfl (hb hby d1_94)  k) ?_
                        refine Dn.by (U' := T88.setTop (mkF m 99 #[.val (.ref o0), .val (.int p1), .val (.int (1 : Int32)), .unset] [(.int (1 : Int32))])) (fun _ k => XS.goto X88.here hx rfl (pc0 := 95) (pc' := 99) rfl (hb hby d1_95) (by decide) (by decide) k) ?_
                        refine Dn.by (U' := T88.setTop (mkF m 100 #[.val (.ref o0), .val (.int p1), .val (.int (1 : Int32)), .val (.int (1 : Int32))] [])) (fun _ k => XS.istoreN X88.here hx rfl (hb hby d1_99) rfl (l' := #[.val (.ref o0), .val (.int p1), .val (.int (1 : Int32)), .val (.int (1 : Int32))]) rfl k) ?_
                        refine Dn.by (U' := T88.setTop (mkF m 105 #[.val (.ref o0), .val (.int p1), .val (.int (1 : Int32)), .val (.int (1 : Int32))] [])) (fun _ k => XS.goto X88.here hx rfl (pc0 := 100) (pc' := 105) rfl (hb hby d1_100) (by decide) (by decide) k) ?_
                        refine Dn.by (U' := T88.setTop (mkF m 106 #[.val (.ref o0), .val (.int p1), .val (.int (1 : Int32)), .val (.int (1 : Int32))] [(.int (1 : Int32))])) (fun _ k => XS.iloadN X88.here hx rfl (hb hby d1_105) rfl k) ?_
                        refine Dn.out X88 (v := (some (.int (1 : Int32)))) (fun h => by rw [Bd.returns] at h; cases h) (BodyLoose.notSynchronized Bd) (fun _ hr => retN X88 hx (t := .boolean) Bd.returns (by simp) (hb hby d1_106) hr) (by decide) (by decide) ?_
                        rw [e88]
                        exact ⟨by simp only [hold, if_neg c3_1, if_neg c9_6, if_neg c15_11, if_neg c21_16, if_pos c27_55, if_neg c33_56, if_pos c39_73, if_neg c45_74, if_neg c51_80, if_neg c64_87, if_pos c76_89], N0, rfl⟩
                      ·
                        refine Dn.by (U' := T88.setTop (mkF m 103 #[.val (.ref o0), .val (.int p1), .val (.int (1 : Int32)), .unset] [])) (fun _ k => Jvm.RoadKit.acmp (g := (mkF m 76 #[.val (.ref o0), .val (.int p1), .val (.int (1 : Int32)), .unset] [(.ref s_XML_1_1), (.ref o0)])) X88 hx rfl rfl rfl (pc0 := 76) (pc' := 103) (same := false) rfl (hb hby d1_76) rfl (decide_eq_false fun q => c76_89 (Value.ref.inj q)) (by decide) (by decide) k) ?_
                        refine Dn.by (U' := T88.setTop (mkF m 104 #[.val (.ref o0), .val (.int p1), .val (.int (1 : Int32)), .unset] [(.int (1 : Int32))])) (fun _ k => XS.iloadN X88.here hx rfl (hb hby d1_103) rfl k) ?_
                        refine Dn.by (U' := T88.setTop (mkF m 105 #[.val (.ref o0), .val (.int p1), .val (.int (1 : Int32)), .val (.int (1 : Int32))] [])) (fun _ k => XS.istoreN X88.here hx rfl (hb hby d1_104) rfl (l' := #[.val (.ref o0), .val (.int p1), .val (.int (1 : Int32)), .val (.int (1 : Int32))]) rfl k) ?_
                        refine Dn.by (U' := T88.setTop (mkF m 106 #[.val (.ref o0), .val (.int p1), .val (.int (1 : Int32)), .val (.int (1 : Int32))] [(.int (1 : Int32))])) (fun _ k => XS.iloadN X88.here hx rfl (hb hby d1_105) rfl k) ?_
                        refine Dn.out X88 (v := (some (.int (1 : Int32)))) (fun h => by rw [Bd.returns] at h; cases h) (BodyLoose.notSynchronized Bd) (fun _ hr => retN X88 hx (t := .boolean) Bd.returns (by simp) (hb hby d1_106) hr) (by decide) (by decide) ?_
                        rw [e88]
                        exact ⟨by simp only [hold, if_neg c3_1, if_neg c9_6, if_neg c15_11, if_neg c21_16, if_pos c27_55, if_neg c33_56, if_pos c39_73, if_neg c45_74, if_neg c51_80, if_neg c64_87, if_neg c76_89], N0, rfl⟩
              ·
                refine Dn.by (U' := s₁.setTop (mkF m 54 #[.val (.ref o0), .val (.int p1), .unset, .unset] [])) (fun _ k => XS.icmpYes X0.here hx rfl (pc0 := 39) (pc' := 54) rfl (hb hby d1_39) rfl (flt c39_73).2.2.2 (by decide) (by decide) k) ?_
                refine Dn.by (U' := s₁.setTop (mkF m 55 #[.val (.ref o0), .val (.int p1), .unset, .unset] [(.int (1 : Int32))])) (fun _ k => XS.iconst X0.here hx rfl (hb hby d1_54)  k) ?_
                refine Dn.by (U' := s₁.setTop (mkF m 59 #[.val (.ref o0), .val (.int p1), .unset, .unset] [(.int (1 : Int32))])) (fun _ k => XS.goto X0.here hx rfl (pc0 := 55) (pc' := 59) rfl (hb hby d1_55) (by decide) (by decide) k) ?_
                refine Dn.by (U' := s₁.setTop (mkF m 60 #[.val (.ref o0), .val (.int p1), .val (.int (1 : Int32)), .unset] [])) (fun _ k => XS.istoreN X0.here hx rfl (hb hby d1_59) rfl (l' := #[.val (.ref o0), .val (.int p1), .val (.int (1 : Int32)), .unset]) rfl k) ?_
                refine Dn.by (U' := s₁.setTop (mkF m 61 #[.val (.ref o0), .val (.int p1), .val (.int (1 : Int32)), .unset] [(.ref o0)])) (fun _ k => XS.aloadN X0.here hx rfl (hb hby d1_60) rfl rfl k) ?_
                obtain ⟨T90, X90, e90, st90⟩ := getS2 X0 hx hZ (a0 := a0) hown (host := "") (Or.inl (hw _ (List.mem_of_getElem? (i := 25) rfl))) Via.refl e0 S_HTML (g := (mkF m 61 #[.val (.ref o0), .val (.int p1), .val (.int (1 : Int32)), .unset] [(.ref o0)])) rfl (hb hby d1_61)
                refine Dn.by (U' := T90.setTop (mkF m 64 #[.val (.ref o0), .val (.int p1), .val (.int (1 : Int32)), .unset] [(.ref s_HTML), (.ref o0)])) st90 ?_
                by_cases c64_91 : o0 = s_HTML
                ·
                  refine Dn.by (U' := T90.setTop (mkF m 67 #[.val (.ref o0), .val (.int p1), .val (.int (1 : Int32)), .unset] [])) (fun _ k => Jvm.RoadKit.acmp (g := (mkF m 64 #[.val (.ref o0), .val (.int p1), .val (.int (1 : Int32)), .unset] [(.ref s_HTML), (.ref o0)])) X90 hx rfl rfl rfl (pc0 := 64) (pc' := 67) (same := true) rfl (hb hby d1_64) rfl (decide_eq_true (congrArg Value.ref c64_91)) (by decide) (by decide) k) ?_
                  refine Dn.by (U' := T90.setTop (mkF m 68 #[.val (.ref o0), .val (.int p1), .val (.int (1 : Int32)), .unset] [(.int (1 : Int32))])) (fun _ k => XS.iconst X90.here hx rfl (hb hby d1_67)  k) ?_
                  refine Dn.by (U' := T90.setTop (mkF m 69 #[.val (.ref o0), .val (.int p1), .val (.int (1 : Int32)), .val (.int (1 : Int32))] [])) (fun _ k => XS.istoreN X90.here hx rfl (hb hby d1_68) rfl (l' := #[.val (.ref o0), .val (.int p1), .val (.int (1 : Int32)), .val (.int (1 : Int32))]) rfl k) ?_
                  refine Dn.by (U' := T90.setTop (mkF m 105 #[.val (.ref o0), .val (.int p1), .val (.int (1 : Int32)), .val (.int (1 : Int32))] [])) (fun _ k => XS.goto X90.here hx rfl (pc0 := 69) (pc' := 105) rfl (hb hby d1_69) (by decide) (by decide) k) ?_
                  refine Dn.by (U' := T90.setTop (mkF m 106 #[.val (.ref o0), .val (.int p1), .val (.int (1 : Int32)), .val (.int (1 : Int32))] [(.int (1 : Int32))])) (fun _ k => XS.iloadN X90.here hx rfl (hb hby d1_105) rfl k) ?_
                  refine Dn.out X90 (v := (some (.int (1 : Int32)))) (fun h => by rw [Bd.returns] at h; cases h) (BodyLoose.notSynchronized Bd) (fun _ hr => retN X90 hx (t := .boolean) Bd.returns (by simp) (hb hby d1_106) hr) (by decide) (by decide) ?_
                  rw [e90]
                  exact ⟨by simp only [hold, if_neg c3_1, if_neg c9_6, if_neg c15_11, if_neg c21_16, if_pos c27_55, if_neg c33_56, if_neg c39_73, if_pos c64_91], N0, rfl⟩
                ·
                  refine Dn.by (U' := T90.setTop (mkF m 72 #[.val (.ref o0), .val (.int p1), .val (.int (1 : Int32)), .unset] [])) (fun _ k => Jvm.RoadKit.acmp (g := (mkF m 64 #[.val (.ref o0), .val (.int p1), .val (.int (1 : Int32)), .unset] [(.ref s_HTML), (.ref o0)])) X90 hx rfl rfl rfl (pc0 := 64) (pc' := 72) (same := false) rfl (hb hby d1_64) rfl (decide_eq_false fun q => c64_91 (Value.ref.inj q)) (by decide) (by decide) k) ?_
                  refine Dn.by (U' := T90.setTop (mkF m 73 #[.val (.ref o0), .val (.int p1), .val (.int (1 : Int32)), .unset] [(.ref o0)])) (fun _ k => XS.aloadN X90.here hx rfl (hb hby d1_72) rfl rfl k) ?_
                  obtain ⟨T92, X92, e92, st92⟩ := getS2 X90 hx hZ (a0 := a0) hown (host := "") (Or.inl (hw _ (List.mem_of_getElem? (i := 26) rfl))) Via.refl e90 S_XML_1_1 (g := (mkF m 73 #[.val (.ref o0), .val (.int p1), .val (.int (1 : Int32)), .unset] [(.ref o0)])) rfl (hb hby d1_73)
                  refine Dn.by (U' := T92.setTop (mkF m 76 #[.val (.ref o0), .val (.int p1), .val (.int (1 : Int32)), .unset] [(.ref s_XML_1_1), (.ref o0)])) st92 ?_
                  by_cases c76_93 : o0 = s_XML_1_1
                  ·
                    refine Dn.by (U' := T92.setTop (mkF m 79 #[.val (.ref o0), .val (.int p1), .val (.int (1 : Int32)), .unset] [])) (fun _ k => Jvm.RoadKit.acmp (g := (mkF m 76 #[.val (.ref o0), .val (.int p1), .val (.int (1 : Int32)), .unset] [(.ref s_XML_1_1), (.ref o0)])) X92 hx rfl rfl rfl (pc0 := 76) (pc' := 79) (same := true) rfl (hb hby d1_76) rfl (decide_eq_true (congrArg Value.ref c76_93)) (by decide) (by decide) k) ?_
                    refine Dn.by (U' := T92.setTop (mkF m 80 #[.val (.ref o0), .val (.int p1), .val (.int (1 : Int32)), .unset] [(.int (1 : Int32))])) (fun _ k => XS.iloadN X92.here hx rfl (hb hby d1_79) rfl k) ?_
                    refine Dn.by (U' := T92.setTop (mkF m 94 #[.val (.ref o0), .val (.int p1), .val (.int (1 : Int32)), .unset] [])) (fun _ k => XS.ifYes X92.here hx rfl (pc0 := 80) (pc' := 94) rfl (hb hby d1_80) rfl (by decide) (by decide) (by decide) k) ?_
                    refine Dn.by (U' := T92.setTop (mkF m 95 #[.val (.ref o0), .val (.int p1), .val (.int (1 : Int32)), .unset] [(.int (1 : Int32))])) (fun _ k => XS.iconst X92.here hx rfl (hb hby d1_94)  k) ?_
                    refine Dn.by (U' := T92.setTop (mkF m 99 #[.val (.ref o0), .val (.int p1), .val (.int (1 : Int32)), .unset] [(.int (1 : Int32))])) (fun _ k => XS.goto X92.here hx rfl (pc0 := 95) (pc' := 99) rfl (hb hby d1_95) (by decide) (by decide) k) ?_
                    refine Dn.by (U' := T92.setTop (mkF m 100 #[.val (.ref o0), .val (.int p1), .val (.int (1 : Int32)), .val (.int (1 : Int32))] [])) (fun _ k => XS.istoreN X92.here hx rfl (hb hby d1_99) rfl (l' := #[.val (.ref o0), .val (.int p1), .val (.int (1 : Int32)), .val (.int (1 : Int32))]) rfl k) ?_
                    refine Dn.by (U' := T92.setTop (mkF m 105 #[.val (.ref o0), .val (.int p1), .val (.int (1 : Int32)), .val (.int (1 : Int32))] [])) (fun _ k => XS.goto X92.here hx rfl (pc0 := 100) (pc' := 105) rfl (hb hby d1_100) (by decide) (by decide) k) ?_
                    refine Dn.by (U' := T92.setTop (mkF m 106 #[.val (.ref o0), .val (.int p1), .val (.int (1 : Int32)), .val (.int (1 : Int32))] [(.int (1 : Int32))])) (fun _ k => XS.iloadN X92.here hx rfl (hb hby d1_105) rfl k) ?_
                    refine Dn.out X92 (v := (some (.int (1 : Int32)))) (fun h => by rw [Bd.returns] at h; cases h) (BodyLoose.notSynchronized Bd) (fun _ hr => retN X92 hx (t := .boolean) Bd.returns (by simp) (hb hby d1_106) hr) (by decide) (by decide) ?_
                    rw [e92]
                    exact ⟨by simp only [hold, if_neg c3_1, if_neg c9_6, if_neg c15_11, if_neg c21_16, if_pos c27_55, if_neg c33_56, if_neg c39_73, if_neg c64_91, if_pos c76_93], N0, rfl⟩
                  ·
                    refine Dn.by (U' := T92.setTop (mkF m 103 #[.val (.ref o0), .val (.int p1), .val (.int (1 : Int32)), .unset] [])) (fun _ k => Jvm.RoadKit.acmp (g := (mkF m 76 #[.val (.ref o0), .val (.int p1), .val (.int (1 : Int32)), .unset] [(.ref s_XML_1_1), (.ref o0)])) X92 hx rfl rfl rfl (pc0 := 76) (pc' := 103) (same := false) rfl (hb hby d1_76) rfl (decide_eq_false fun q => c76_93 (Value.ref.inj q)) (by decide) (by decide) k) ?_
                    refine Dn.by (U' := T92.setTop (mkF m 104 #[.val (.ref o0), .val (.int p1), .val (.int (1 : Int32)), .unset] [(.int (1 : Int32))])) (fun _ k => XS.iloadN X92.here hx rfl (hb hby d1_103) rfl k) ?_
                    refine Dn.by (U' := T92.setTop (mkF m 105 #[.val (.ref o0), .val (.int p1), .val (.int (1 : Int32)), .val (.int (1 : Int32))] [])) (fun _ k => XS.istoreN X92.here hx rfl (hb hby d1_104) rfl (l' := #[.val (.ref o0), .val (.int p1), .val (.int (1 : Int32)), .val (.int (1 : Int32))]) rfl k) ?_
                    refine Dn.by (U' := T92.setTop (mkF m 106 #[.val (.ref o0), .val (.int p1), .val (.int (1 : Int32)), .val (.int (1 : Int32))] [(.int (1 : Int32))])) (fun _ k => XS.iloadN X92.here hx rfl (hb hby d1_105) rfl k) ?_
                    refine Dn.out X92 (v := (some (.int (1 : Int32)))) (fun h => by rw [Bd.returns] at h; cases h) (BodyLoose.notSynchronized Bd) (fun _ hr => retN X92 hx (t := .boolean) Bd.returns (by simp) (hb hby d1_106) hr) (by decide) (by decide) ?_
                    rw [e92]
                    exact ⟨by simp only [hold, if_neg c3_1, if_neg c9_6, if_neg c15_11, if_neg c21_16, if_pos c27_55, if_neg c33_56, if_neg c39_73, if_neg c64_91, if_neg c76_93], N0, rfl⟩
          ·
            refine Dn.by (U' := s₁.setTop (mkF m 54 #[.val (.ref o0), .val (.int p1), .unset, .unset] [])) (fun _ k => XS.icmpYes X0.here hx rfl (pc0 := 27) (pc' := 54) rfl (hb hby d1_27) rfl (flt c27_55).2.2.2 (by decide) (by decide) k) ?_
            refine Dn.by (U' := s₁.setTop (mkF m 55 #[.val (.ref o0), .val (.int p1), .unset, .unset] [(.int (1 : Int32))])) (fun _ k => XS.iconst X0.here hx rfl (hb hby d1_54)  k) ?_
            refine Dn.by (U' := s₁.setTop (mkF m 59 #[.val (.ref o0), .val (.int p1), .unset, .unset] [(.int (1 : Int32))])) (fun _ k => XS.goto X0.here hx rfl (pc0 := 55) (pc' := 59) rfl (hb hby d1_55) (by decide) (by decide) k) ?_
            refine Dn.by (U' := s₁.setTop (mkF m 60 #[.val (.ref o0), .val (.int p1), .val (.int (1 : Int32)), .unset] [])) (fun _ k => XS.istoreN X0.here hx rfl (hb hby d1_59) rfl (l' := #[.val (.ref o0), .val (.int p1), .val (.int (1 : Int32)), .unset]) rfl k) ?_
            refine Dn.by (U' := s₁.setTop (mkF m 61 #[.val (.ref o0), .val (.int p1), .val (.int (1 : Int32)), .unset] [(.ref o0)])) (fun _ k => XS.aloadN X0.here hx rfl (hb hby d1_60) rfl rfl k) ?_
            obtain ⟨T94, X94, e94, st94⟩ := getS2 X0 hx hZ (a0 := a0) hown (host := "") (Or.inl (hw _ (List.mem_of_getElem? (i := 25) rfl))) Via.refl e0 S_HTML (g := (mkF m 61 #[.val (.ref o0), .val (.int p1), .val (.int (1 : Int32)), .unset] [(.ref o0)])) rfl (hb hby d1_61)
            refine Dn.by (U' := T94.setTop (mkF m 64 #[.val (.ref o0), .val (.int p1), .val (.int (1 : Int32)), .unset] [(.ref s_HTML), (.ref o0)])) st94 ?_
            by_cases c64_95 : o0 = s_HTML
            ·
              refine Dn.by (U' := T94.setTop (mkF m 67 #[.val (.ref o0), .val (.int p1), .val (.int (1 : Int32)), .unset] [])) (fun _ k => Jvm.RoadKit.acmp (g := (mkF m 64 #[.val (.ref o0), .val (.int p1), .val (.int (1 : Int32)), .unset] [(.ref s_HTML), (.ref o0)])) X94 hx rfl rfl rfl (pc0 := 64) (pc' := 67) (same := true) rfl (hb hby d1_64) rfl (decide_eq_true (congrArg Value.ref c64_95)) (by decide) (by decide) k) ?_
              refine Dn.by (U' := T94.setTop (mkF m 68 #[.val (.ref o0), .val (.int p1), .val (.int (1 : Int32)), .unset] [(.int (1 : Int32))])) (fun _ k => XS.iconst X94.here hx rfl (hb hby d1_67)  k) ?_
              refine Dn.by (U' := T94.setTop (mkF m 69 #[.val (.ref o0), .val (.int p1), .val (.int (1 : Int32)), .val (.int (1 : Int32))] [])) (fun _ k => XS.istoreN X94.here hx rfl (hb hby d1_68) rfl (l' := #[.val (.ref o0), .val (.int p1), .val (.int (1 : Int32)), .val (.int (1 : Int32))]) rfl k) ?_
              refine Dn.by (U' := T94.setTop (mkF m 105 #[.val (.ref o0), .val (.int p1), .val (.int (1 : Int32)), .val (.int (1 : Int32))] [])) (fun _ k => XS.goto X94.here hx rfl (pc0 := 69) (pc' := 105) rfl (hb hby d1_69) (by decide) (by decide) k) ?_
              refine Dn.by (U' := T94.setTop (mkF m 106 #[.val (.ref o0), .val (.int p1), .val (.int (1 : Int32)), .val (.int (1 : Int32))] [(.int (1 : Int32))])) (fun _ k => XS.iloadN X94.here hx rfl (hb hby d1_105) rfl k) ?_
              refine Dn.out X94 (v := (some (.int (1 : Int32)))) (fun h => by rw [Bd.returns] at h; cases h) (BodyLoose.notSynchronized Bd) (fun _ hr => retN X94 hx (t := .boolean) Bd.returns (by simp) (hb hby d1_106) hr) (by decide) (by decide) ?_
              rw [e94]
              exact ⟨by simp only [hold, if_neg c3_1, if_neg c9_6, if_neg c15_11, if_neg c21_16, if_neg c27_55, if_pos c64_95], N0, rfl⟩
            ·
              refine Dn.by (U' := T94.setTop (mkF m 72 #[.val (.ref o0), .val (.int p1), .val (.int (1 : Int32)), .unset] [])) (fun _ k => Jvm.RoadKit.acmp (g := (mkF m 64 #[.val (.ref o0), .val (.int p1), .val (.int (1 : Int32)), .unset] [(.ref s_HTML), (.ref o0)])) X94 hx rfl rfl rfl (pc0 := 64) (pc' := 72) (same := false) rfl (hb hby d1_64) rfl (decide_eq_false fun q => c64_95 (Value.ref.inj q)) (by decide) (by decide) k) ?_
              refine Dn.by (U' := T94.setTop (mkF m 73 #[.val (.ref o0), .val (.int p1), .val (.int (1 : Int32)), .unset] [(.ref o0)])) (fun _ k => XS.aloadN X94.here hx rfl (hb hby d1_72) rfl rfl k) ?_
              obtain ⟨T96, X96, e96, st96⟩ := getS2 X94 hx hZ (a0 := a0) hown (host := "") (Or.inl (hw _ (List.mem_of_getElem? (i := 26) rfl))) Via.refl e94 S_XML_1_1 (g := (mkF m 73 #[.val (.ref o0), .val (.int p1), .val (.int (1 : Int32)), .unset] [(.ref o0)])) rfl (hb hby d1_73)
              refine Dn.by (U' := T96.setTop (mkF m 76 #[.val (.ref o0), .val (.int p1), .val (.int (1 : Int32)), .unset] [(.ref s_XML_1_1), (.ref o0)])) st96 ?_
              by_cases c76_97 : o0 = s_XML_1_1
              ·
                refine Dn.by (U' := T96.setTop (mkF m 79 #[.val (.ref o0), .val (.int p1), .val (.int (1 : Int32)), .unset] [])) (fun _ k => Jvm.RoadKit.acmp (g := (mkF m 76 #[.val (.ref o0), .val (.int p1), .val (.int (1 : Int32)), .unset] [(.ref s_XML_1_1), (.ref o0)])) X96 hx rfl rfl rfl (pc0 := 76) (pc' := 79) (same := true) rfl (hb hby d1_76) rfl (decide_eq_true (congrArg Value.ref c76_97)) (by decide) (by decide) k) ?_
                refine Dn.by (U' := T96.setTop (mkF m 80 #[.val (.ref o0), .val (.int p1), .val (.int (1 : Int32)), .unset] [(.int (1 : Int32))])) (fun _ k => XS.iloadN X96.here hx rfl (hb hby d1_79) rfl k) ?_
                refine Dn.by (U' := T96.setTop (mkF m 94 #[.val (.ref o0), .val (.int p1), .val (.int (1 : Int32)), .unset] [])) (fun _ k => XS.ifYes X96.here hx rfl (pc0 := 80) (pc' := 94) rfl (hb hby d1_80) rfl (by decide) (by decide) (by decide) k) ?_
                refine Dn.by (U' := T96.setTop (mkF m 95 #[.val (.ref o0), .val (.int p1), .val (.int (1 : Int32)), .unset] [(.int (1 : Int32))])) (fun _ k => XS.iconst X96.here hx rfl (hb hby d1_94)  k) ?_
                refine Dn.by (U' := T96.setTop (mkF m 99 #[.val (.ref o0), .val (.int p1), .val (.int (1 : Int32)), .unset] [(.int (1 : Int32))])) (fun _ k => XS.goto X96.here hx rfl (pc0 := 95) (pc' := 99) rfl (hb hby d1_95) (by decide) (by decide) k) ?_
                refine Dn.by (U' := T96.setTop (mkF m 100 #[.val (.ref o0), .val (.int p1), .val (.int (1 : Int32)), .val (.int (1 : Int32))] [])) (fun _ k => XS.istoreN X96.here hx rfl (hb hby d1_99) rfl (l' := #[.val (.ref o0), .val (.int p1), .val (.int (1 : Int32)), .val (.int (1 : Int32))]) rfl k) ?_
                refine Dn.by (U' := T96.setTop (mkF m 105 #[.val (.ref o0), .val (.int p1), .val (.int (1 : Int32)), .val (.int (1 : Int32))] [])) (fun _ k => XS.goto X96.here hx rfl (pc0 := 100) (pc' := 105) rfl (hb hby d1_100) (by decide) (by decide) k) ?_
                refine Dn.by (U' := T96.setTop (mkF m 106 #[.val (.ref o0), .val (.int p1), .val (.int (1 : Int32)), .val (.int (1 : Int32))] [(.int (1 : Int32))])) (fun _ k => XS.iloadN X96.here hx rfl (hb hby d1_105) rfl k) ?_
                refine Dn.out X96 (v := (some (.int (1 : Int32)))) (fun h => by rw [Bd.returns] at h; cases h) (BodyLoose.notSynchronized Bd) (fun _ hr => retN X96 hx (t := .boolean) Bd.returns (by simp) (hb hby d1_106) hr) (by decide) (by decide) ?_
                rw [e96]
                exact ⟨by simp only [hold, if_neg c3_1, if_neg c9_6, if_neg c15_11, if_neg c21_16, if_neg c27_55, if_neg c64_95, if_pos c76_97], N0, rfl⟩
              ·
                refine Dn.by (U' := T96.setTop (mkF m 103 #[.val (.ref o0), .val (.int p1), .val (.int (1 : Int32)), .unset] [])) (fun _ k => Jvm.RoadKit.acmp (g := (mkF m 76 #[.val (.ref o0), .val (.int p1), .val (.int (1 : Int32)), .unset] [(.ref s_XML_1_1), (.ref o0)])) X96 hx rfl rfl rfl (pc0 := 76) (pc' := 103) (same := false) rfl (hb hby d1_76) rfl (decide_eq_false fun q => c76_97 (Value.ref.inj q)) (by decide) (by decide) k) ?_
                refine Dn.by (U' := T96.setTop (mkF m 104 #[.val (.ref o0), .val (.int p1), .val (.int (1 : Int32)), .unset] [(.int (1 : Int32))])) (fun _ k => XS.iloadN X96.here hx rfl (hb hby d1_103) rfl k) ?_
                refine Dn.by (U' := T96.setTop (mkF m 105 #[.val (.ref o0), .val (.int p1), .val (.int (1 : Int32)), .val (.int (1 : Int32))] [])) (fun _ k => XS.istoreN X96.here hx rfl (hb hby d1_104) rfl (l' := #[.val (.ref o0), .val (.int p1), .val (.int (1 : Int32)), .val (.int (1 : Int32))]) rfl k) ?_
                refine Dn.by (U' := T96.setTop (mkF m 106 #[.val (.ref o0), .val (.int p1), .val (.int (1 : Int32)), .val (.int (1 : Int32))] [(.int (1 : Int32))])) (fun _ k => XS.iloadN X96.here hx rfl (hb hby d1_105) rfl k) ?_
                refine Dn.out X96 (v := (some (.int (1 : Int32)))) (fun h => by rw [Bd.returns] at h; cases h) (BodyLoose.notSynchronized Bd) (fun _ hr => retN X96 hx (t := .boolean) Bd.returns (by simp) (hb hby d1_106) hr) (by decide) (by decide) ?_
                rw [e96]
                exact ⟨by simp only [hold, if_neg c3_1, if_neg c9_6, if_neg c15_11, if_neg c21_16, if_neg c27_55, if_neg c64_95, if_neg c76_97], N0, rfl⟩
def expd (p0 : Int32) (p1 : Int32) : Int32 := (if p0 = (2 : Int32) then (1 : Int32) else (if (0 : Int32) < p1 then (if p1 < (32 : Int32) then (if p1 = (9 : Int32) then (1 : Int32) else (if p1 = (10 : Int32) then (1 : Int32) else (if p1 = (13 : Int32) then (1 : Int32) else (if p0 = (1 : Int32) then (1 : Int32) else (0 : Int32))))) else (if p1 < (55296 : Int32) then (1 : Int32) else (if p1 < (57344 : Int32) then (0 : Int32) else (if p1 < (65534 : Int32) then (1 : Int32) else (if p1 < (65536 : Int32) then (0 : Int32) else (if (1114111 : Int32) < p1 then (0 : Int32) else (1 : Int32))))))) else (0 : Int32)))
abbrev Rm2 : Room := { frames := 0, cells := 0, slots := 0, locals := 0 }
theorem ef_2 (m : MethodId) (p0 : Int32) (p1 : Int32) : entryFrame m #[(.int p0), (.int p1)] 2 = mkF m 0 #[.val (.int p0), .val (.int p1)] [] := by first | (simp [entryFrame, mkF, argsToLocals, Value.category]; done) | rfl
def Q2 (Z : State) (p0 : Int32) (p1 : Int32) (h0 : Heap) (n0 : Nat) (v : Option Value) (h : Heap) (L : List Loc) : Prop := v = some (.int (expd p0 p1)) ∧ Fr n0 L ∧ h = h0
set_option maxRecDepth 65536 in
set_option maxHeartbeats 40000000 in
theorem rm2 (l : Launch) (Z : State) (a0 : Array Value) (hw : ∀ d ∈ tables_1, d.before a0 Z = true) (ws : List Jvm.Cond) (p0 : Int32) (p1 : Int32) (h0 : Heap) (n0 : Nat) (Z0 : n0 ≤ h0.size)  :
    MetFree l (⟨"com/example/osprey/osprey/transform/RepertoireHoldsPinLaw", "expected", "(II)Z"⟩ : MethodName) (head1 (Jvm.Cond.code (⟨"com/example/osprey/osprey/transform/RepertoireHoldsPinLaw", "expected", "(II)Z"⟩ : MethodName) method_2_code 2 (some .boolean) :: ws) Rm2) (fun a U => a = #[(.int p0), (.int p1)] ∧ Z.Warmed39 U.vm ∧ U.heap = h0) (fun _ _ _ _ _ => True) (fun _ U o U' => ∃ v L, o = .returned v ∧ Q2 Z p0 p1 h0 n0 v U'.heap L ∧ FrameEnd U o U' L Rm2.cells Rm2.slots) := by
  refine MetFree.of_bodySF (plainFor_of_name pn1) hisR ?_
  intro p e s m args below meth c s₁ Bd hml0 hP hK
  obtain ⟨rfl, hZ, hh⟩ := hP
  have hx := Bd.exec
  have hby := Bd.bytes
  have hml : c.maxLocals = 2 := hml0
  have hown : s.vm.findClass "com/example/osprey/osprey/transform/RepertoireHoldsPinLaw" = some m.cls := findClass_of_methodNamed Bd.named
  have hnm := (name_of_methodNamed Bd.named Bd.method).1
  have X0 : Stand p l e Rm2 s m #[(.int p0), (.int p1)] below meth c s₁ [] 0 0 := Stand.of_body Bd
  have e0 : s₁.heap = h0 := by rw [← hh, Bd.state]; rfl
  have N0 := Fr.nil n0
  show Dn p e below s Rm2.cells Rm2.slots (Q2 Z p0 p1 h0 n0) (s₁.setTop (entryFrame m #[(.int p0), (.int p1)] 2))
  rw [ef_2]
  refine Dn.by (U' := s₁.setTop (mkF m 1 #[.val (.int p0), .val (.int p1)] [(.int p0)])) (fun _ k => XS.iloadN X0.here hx rfl (hb hby d2_0) rfl k) ?_
  refine Dn.by (U' := s₁.setTop (mkF m 2 #[.val (.int p0), .val (.int p1)] [(.int (2 : Int32)), (.int p0)])) (fun _ k => XS.iconst X0.here hx rfl (hb hby d2_1)  k) ?_
  by_cases c2_1 : p0 = (2 : Int32)
  ·
    refine Dn.by (U' := s₁.setTop (mkF m 5 #[.val (.int p0), .val (.int p1)] [])) (fun _ k => XS.icmpNo X0.here hx rfl (hb hby d2_2) rfl (teq c2_1).2 k) ?_
    refine Dn.by (U' := s₁.setTop (mkF m 6 #[.val (.int p0), .val (.int p1)] [(.int (1 : Int32))])) (fun _ k => XS.iconst X0.here hx rfl (hb hby d2_5)  k) ?_
    refine Dn.out X0 (v := (some (.int (1 : Int32)))) (fun h => by rw [Bd.returns] at h; cases h) (BodyLoose.notSynchronized Bd) (fun _ hr => retN X0 hx (t := .boolean) Bd.returns (by simp) (hb hby d2_6) hr) (by decide) (by decide) ?_
    rw [e0]
    exact ⟨by simp only [expd, if_pos c2_1], N0, rfl⟩
  ·
    refine Dn.by (U' := s₁.setTop (mkF m 7 #[.val (.int p0), .val (.int p1)] [])) (fun _ k => XS.icmpYes X0.here hx rfl (pc0 := 2) (pc' := 7) rfl (hb hby d2_2) rfl (feq c2_1).2 (by decide) (by decide) k) ?_
    refine Dn.by (U' := s₁.setTop (mkF m 8 #[.val (.int p0), .val (.int p1)] [(.int p1)])) (fun _ k => XS.iloadN X0.here hx rfl (hb hby d2_7) rfl k) ?_
    by_cases c8_2 : (0 : Int32) < p1
    ·
      refine Dn.by (U' := s₁.setTop (mkF m 13 #[.val (.int p0), .val (.int p1)] [])) (fun _ k => XS.ifYes X0.here hx rfl (pc0 := 8) (pc' := 13) rfl (hb hby d2_8) rfl ((if0 _ _).trans (tlt c8_2).2.2.1) (by decide) (by decide) k) ?_
      refine Dn.by (U' := s₁.setTop (mkF m 14 #[.val (.int p0), .val (.int p1)] [(.int p1)])) (fun _ k => XS.iloadN X0.here hx rfl (hb hby d2_13) rfl k) ?_
      refine Dn.by (U' := s₁.setTop (mkF m 16 #[.val (.int p0), .val (.int p1)] [(.int (32 : Int32)), (.int p1)])) (fun _ k => XS.bipush X0.here hx rfl (hb hby d2_14)  k) ?_
      by_cases c16_3 : p1 < (32 : Int32)
      ·
        refine Dn.by (U' := s₁.setTop (mkF m 19 #[.val (.int p0), .val (.int p1)] [])) (fun _ k => XS.icmpNo X0.here hx rfl (hb hby d2_16) rfl (tlt c16_3).2.1 k) ?_
        refine Dn.by (U' := s₁.setTop (mkF m 20 #[.val (.int p0), .val (.int p1)] [(.int p1)])) (fun _ k => XS.iloadN X0.here hx rfl (hb hby d2_19) rfl k) ?_
        refine Dn.by (U' := s₁.setTop (mkF m 22 #[.val (.int p0), .val (.int p1)] [(.int (9 : Int32)), (.int p1)])) (fun _ k => XS.bipush X0.here hx rfl (hb hby d2_20)  k) ?_
        by_cases c22_4 : p1 = (9 : Int32)
        ·
          refine Dn.by (U' := s₁.setTop (mkF m 37 #[.val (.int p0), .val (.int p1)] [])) (fun _ k => XS.icmpYes X0.here hx rfl (pc0 := 22) (pc' := 37) rfl (hb hby d2_22) rfl (teq c22_4).1 (by decide) (by decide) k) ?_
          refine Dn.by (U' := s₁.setTop (mkF m 38 #[.val (.int p0), .val (.int p1)] [(.int (1 : Int32))])) (fun _ k => XS.iconst X0.here hx rfl (hb hby d2_37)  k) ?_
          refine Dn.out X0 (v := (some (.int (1 : Int32)))) (fun h => by rw [Bd.returns] at h; cases h) (BodyLoose.notSynchronized Bd) (fun _ hr => retN X0 hx (t := .boolean) Bd.returns (by simp) (hb hby d2_38) hr) (by decide) (by decide) ?_
          rw [e0]
          exact ⟨by simp only [expd, if_neg c2_1, if_pos c8_2, if_pos c16_3, if_pos c22_4], N0, rfl⟩
        ·
          refine Dn.by (U' := s₁.setTop (mkF m 25 #[.val (.int p0), .val (.int p1)] [])) (fun _ k => XS.icmpNo X0.here hx rfl (hb hby d2_22) rfl (feq c22_4).1 k) ?_
          refine Dn.by (U' := s₁.setTop (mkF m 26 #[.val (.int p0), .val (.int p1)] [(.int p1)])) (fun _ k => XS.iloadN X0.here hx rfl (hb hby d2_25) rfl k) ?_
          refine Dn.by (U' := s₁.setTop (mkF m 28 #[.val (.int p0), .val (.int p1)] [(.int (10 : Int32)), (.int p1)])) (fun _ k => XS.bipush X0.here hx rfl (hb hby d2_26)  k) ?_
          by_cases c28_5 : p1 = (10 : Int32)
          ·
            refine Dn.by (U' := s₁.setTop (mkF m 37 #[.val (.int p0), .val (.int p1)] [])) (fun _ k => XS.icmpYes X0.here hx rfl (pc0 := 28) (pc' := 37) rfl (hb hby d2_28) rfl (teq c28_5).1 (by decide) (by decide) k) ?_
            refine Dn.by (U' := s₁.setTop (mkF m 38 #[.val (.int p0), .val (.int p1)] [(.int (1 : Int32))])) (fun _ k => XS.iconst X0.here hx rfl (hb hby d2_37)  k) ?_
            refine Dn.out X0 (v := (some (.int (1 : Int32)))) (fun h => by rw [Bd.returns] at h; cases h) (BodyLoose.notSynchronized Bd) (fun _ hr => retN X0 hx (t := .boolean) Bd.returns (by simp) (hb hby d2_38) hr) (by decide) (by decide) ?_
            rw [e0]
            exact ⟨by simp only [expd, if_neg c2_1, if_pos c8_2, if_pos c16_3, if_neg c22_4, if_pos c28_5], N0, rfl⟩
          ·
            refine Dn.by (U' := s₁.setTop (mkF m 31 #[.val (.int p0), .val (.int p1)] [])) (fun _ k => XS.icmpNo X0.here hx rfl (hb hby d2_28) rfl (feq c28_5).1 k) ?_
            refine Dn.by (U' := s₁.setTop (mkF m 32 #[.val (.int p0), .val (.int p1)] [(.int p1)])) (fun _ k => XS.iloadN X0.here hx rfl (hb hby d2_31) rfl k) ?_
            refine Dn.by (U' := s₁.setTop (mkF m 34 #[.val (.int p0), .val (.int p1)] [(.int (13 : Int32)), (.int p1)])) (fun _ k => XS.bipush X0.here hx rfl (hb hby d2_32)  k) ?_
            by_cases c34_6 : p1 = (13 : Int32)
            ·
              refine Dn.by (U' := s₁.setTop (mkF m 37 #[.val (.int p0), .val (.int p1)] [])) (fun _ k => XS.icmpNo X0.here hx rfl (hb hby d2_34) rfl (teq c34_6).2 k) ?_
              refine Dn.by (U' := s₁.setTop (mkF m 38 #[.val (.int p0), .val (.int p1)] [(.int (1 : Int32))])) (fun _ k => XS.iconst X0.here hx rfl (hb hby d2_37)  k) ?_
              refine Dn.out X0 (v := (some (.int (1 : Int32)))) (fun h => by rw [Bd.returns] at h; cases h) (BodyLoose.notSynchronized Bd) (fun _ hr => retN X0 hx (t := .boolean) Bd.returns (by simp) (hb hby d2_38) hr) (by decide) (by decide) ?_
              rw [e0]
              exact ⟨by simp only [expd, if_neg c2_1, if_pos c8_2, if_pos c16_3, if_neg c22_4, if_neg c28_5, if_pos c34_6], N0, rfl⟩
            ·
              refine Dn.by (U' := s₁.setTop (mkF m 39 #[.val (.int p0), .val (.int p1)] [])) (fun _ k => XS.icmpYes X0.here hx rfl (pc0 := 34) (pc' := 39) rfl (hb hby d2_34) rfl (feq c34_6).2 (by decide) (by decide) k) ?_
              refine Dn.by (U' := s₁.setTop (mkF m 40 #[.val (.int p0), .val (.int p1)] [(.int p0)])) (fun _ k => XS.iloadN X0.here hx rfl (hb hby d2_39) rfl k) ?_
              refine Dn.by (U' := s₁.setTop (mkF m 41 #[.val (.int p0), .val (.int p1)] [(.int (1 : Int32)), (.int p0)])) (fun _ k => XS.iconst X0.here hx rfl (hb hby d2_40)  k) ?_
              by_cases c41_7 : p0 = (1 : Int32)
              ·
                refine Dn.by (U' := s₁.setTop (mkF m 44 #[.val (.int p0), .val (.int p1)] [])) (fun _ k => XS.icmpNo X0.here hx rfl (hb hby d2_41) rfl (teq c41_7).2 k) ?_
                refine Dn.by (U' := s₁.setTop (mkF m 45 #[.val (.int p0), .val (.int p1)] [(.int (1 : Int32))])) (fun _ k => XS.iconst X0.here hx rfl (hb hby d2_44)  k) ?_
                refine Dn.by (U' := s₁.setTop (mkF m 49 #[.val (.int p0), .val (.int p1)] [(.int (1 : Int32))])) (fun _ k => XS.goto X0.here hx rfl (pc0 := 45) (pc' := 49) rfl (hb hby d2_45) (by decide) (by decide) k) ?_
                refine Dn.out X0 (v := (some (.int (1 : Int32)))) (fun h => by rw [Bd.returns] at h; cases h) (BodyLoose.notSynchronized Bd) (fun _ hr => retN X0 hx (t := .boolean) Bd.returns (by simp) (hb hby d2_49) hr) (by decide) (by decide) ?_
                rw [e0]
                exact ⟨by simp only [expd, if_neg c2_1, if_pos c8_2, if_pos c16_3, if_neg c22_4, if_neg c28_5, if_neg c34_6, if_pos c41_7], N0, rfl⟩
              ·
                refine Dn.by (U' := s₁.setTop (mkF m 48 #[.val (.int p0), .val (.int p1)] [])) (fun _ k => XS.icmpYes X0.here hx rfl (pc0 := 41) (pc' := 48) rfl (hb hby d2_41) rfl (feq c41_7).2 (by decide) (by decide) k) ?_
                refine Dn.by (U' := s₁.setTop (mkF m 49 #[.val (.int p0), .val (.int p1)] [(.int (0 : Int32))])) (fun _ k => XS.iconst X0.here hx rfl (hb hby d2_48)  k) ?_
                refine Dn.out X0 (v := (some (.int (0 : Int32)))) (fun h => by rw [Bd.returns] at h; cases h) (BodyLoose.notSynchronized Bd) (fun _ hr => retN X0 hx (t := .boolean) Bd.returns (by simp) (hb hby d2_49) hr) (by decide) (by decide) ?_
                rw [e0]
                exact ⟨by simp only [expd, if_neg c2_1, if_pos c8_2, if_pos c16_3, if_neg c22_4, if_neg c28_5, if_neg c34_6, if_neg c41_7], N0, rfl⟩
      ·
        refine Dn.by (U' := s₁.setTop (mkF m 50 #[.val (.int p0), .val (.int p1)] [])) (fun _ k => XS.icmpYes X0.here hx rfl (pc0 := 16) (pc' := 50) rfl (hb hby d2_16) rfl (flt c16_3).2.1 (by decide) (by decide) k) ?_
        refine Dn.by (U' := s₁.setTop (mkF m 51 #[.val (.int p0), .val (.int p1)] [(.int p1)])) (fun _ k => XS.iloadN X0.here hx rfl (hb hby d2_50) rfl k) ?_
        refine Dn.by (U' := s₁.setTop (mkF m 53 #[.val (.int p0), .val (.int p1)] [(.int (55296 : Int32)), (.int p1)])) (X0.ldcInt hx hown (mvT hZ (hw _ (List.mem_of_getElem? (i := 11) rfl))) (g := (mkF m 51 #[.val (.int p0), .val (.int p1)] [(.int p1)])) rfl (hb hby d2_51)) ?_
        by_cases c53_8 : p1 < (55296 : Int32)
        ·
          refine Dn.by (U' := s₁.setTop (mkF m 56 #[.val (.int p0), .val (.int p1)] [])) (fun _ k => XS.icmpNo X0.here hx rfl (hb hby d2_53) rfl (tlt c53_8).2.1 k) ?_
          refine Dn.by (U' := s₁.setTop (mkF m 57 #[.val (.int p0), .val (.int p1)] [(.int (1 : Int32))])) (fun _ k => XS.iconst X0.here hx rfl (hb hby d2_56)  k) ?_
          refine Dn.out X0 (v := (some (.int (1 : Int32)))) (fun h => by rw [Bd.returns] at h; cases h) (BodyLoose.notSynchronized Bd) (fun _ hr => retN X0 hx (t := .boolean) Bd.returns (by simp) (hb hby d2_57) hr) (by decide) (by decide) ?_
          rw [e0]
          exact ⟨by simp only [expd, if_neg c2_1, if_pos c8_2, if_neg c16_3, if_pos c53_8], N0, rfl⟩
        ·
          refine Dn.by (U' := s₁.setTop (mkF m 58 #[.val (.int p0), .val (.int p1)] [])) (fun _ k => XS.icmpYes X0.here hx rfl (pc0 := 53) (pc' := 58) rfl (hb hby d2_53) rfl (flt c53_8).2.1 (by decide) (by decide) k) ?_
          refine Dn.by (U' := s₁.setTop (mkF m 59 #[.val (.int p0), .val (.int p1)] [(.int p1)])) (fun _ k => XS.iloadN X0.here hx rfl (hb hby d2_58) rfl k) ?_
          refine Dn.by (U' := s₁.setTop (mkF m 61 #[.val (.int p0), .val (.int p1)] [(.int (57344 : Int32)), (.int p1)])) (X0.ldcInt hx hown (mvT hZ (hw _ (List.mem_of_getElem? (i := 12) rfl))) (g := (mkF m 59 #[.val (.int p0), .val (.int p1)] [(.int p1)])) rfl (hb hby d2_59)) ?_
          by_cases c61_9 : p1 < (57344 : Int32)
          ·
            refine Dn.by (U' := s₁.setTop (mkF m 64 #[.val (.int p0), .val (.int p1)] [])) (fun _ k => XS.icmpNo X0.here hx rfl (hb hby d2_61) rfl (tlt c61_9).2.1 k) ?_
            refine Dn.by (U' := s₁.setTop (mkF m 65 #[.val (.int p0), .val (.int p1)] [(.int (0 : Int32))])) (fun _ k => XS.iconst X0.here hx rfl (hb hby d2_64)  k) ?_
            refine Dn.out X0 (v := (some (.int (0 : Int32)))) (fun h => by rw [Bd.returns] at h; cases h) (BodyLoose.notSynchronized Bd) (fun _ hr => retN X0 hx (t := .boolean) Bd.returns (by simp) (hb hby d2_65) hr) (by decide) (by decide) ?_
            rw [e0]
            exact ⟨by simp only [expd, if_neg c2_1, if_pos c8_2, if_neg c16_3, if_neg c53_8, if_pos c61_9], N0, rfl⟩
          ·
            refine Dn.by (U' := s₁.setTop (mkF m 66 #[.val (.int p0), .val (.int p1)] [])) (fun _ k => XS.icmpYes X0.here hx rfl (pc0 := 61) (pc' := 66) rfl (hb hby d2_61) rfl (flt c61_9).2.1 (by decide) (by decide) k) ?_
            refine Dn.by (U' := s₁.setTop (mkF m 67 #[.val (.int p0), .val (.int p1)] [(.int p1)])) (fun _ k => XS.iloadN X0.here hx rfl (hb hby d2_66) rfl k) ?_
            refine Dn.by (U' := s₁.setTop (mkF m 69 #[.val (.int p0), .val (.int p1)] [(.int (65534 : Int32)), (.int p1)])) (X0.ldcInt hx hown (mvT hZ (hw _ (List.mem_of_getElem? (i := 13) rfl))) (g := (mkF m 67 #[.val (.int p0), .val (.int p1)] [(.int p1)])) rfl (hb hby d2_67)) ?_
            by_cases c69_10 : p1 < (65534 : Int32)
            ·
              refine Dn.by (U' := s₁.setTop (mkF m 72 #[.val (.int p0), .val (.int p1)] [])) (fun _ k => XS.icmpNo X0.here hx rfl (hb hby d2_69) rfl (tlt c69_10).2.1 k) ?_
              refine Dn.by (U' := s₁.setTop (mkF m 73 #[.val (.int p0), .val (.int p1)] [(.int (1 : Int32))])) (fun _ k => XS.iconst X0.here hx rfl (hb hby d2_72)  k) ?_
              refine Dn.out X0 (v := (some (.int (1 : Int32)))) (fun h => by rw [Bd.returns] at h; cases h) (BodyLoose.notSynchronized Bd) (fun _ hr => retN X0 hx (t := .boolean) Bd.returns (by simp) (hb hby d2_73) hr) (by decide) (by decide) ?_
              rw [e0]
              exact ⟨by simp only [expd, if_neg c2_1, if_pos c8_2, if_neg c16_3, if_neg c53_8, if_neg c61_9, if_pos c69_10], N0, rfl⟩
            ·
              refine Dn.by (U' := s₁.setTop (mkF m 74 #[.val (.int p0), .val (.int p1)] [])) (fun _ k => XS.icmpYes X0.here hx rfl (pc0 := 69) (pc' := 74) rfl (hb hby d2_69) rfl (flt c69_10).2.1 (by decide) (by decide) k) ?_
              refine Dn.by (U' := s₁.setTop (mkF m 75 #[.val (.int p0), .val (.int p1)] [(.int p1)])) (fun _ k => XS.iloadN X0.here hx rfl (hb hby d2_74) rfl k) ?_
              refine Dn.by (U' := s₁.setTop (mkF m 77 #[.val (.int p0), .val (.int p1)] [(.int (65536 : Int32)), (.int p1)])) (X0.ldcInt hx hown (mvT hZ (hw _ (List.mem_of_getElem? (i := 14) rfl))) (g := (mkF m 75 #[.val (.int p0), .val (.int p1)] [(.int p1)])) rfl (hb hby d2_75)) ?_
              by_cases c77_11 : p1 < (65536 : Int32)
              ·
                refine Dn.by (U' := s₁.setTop (mkF m 80 #[.val (.int p0), .val (.int p1)] [])) (fun _ k => XS.icmpNo X0.here hx rfl (hb hby d2_77) rfl (tlt c77_11).2.1 k) ?_
                refine Dn.by (U' := s₁.setTop (mkF m 81 #[.val (.int p0), .val (.int p1)] [(.int (0 : Int32))])) (fun _ k => XS.iconst X0.here hx rfl (hb hby d2_80)  k) ?_
                refine Dn.out X0 (v := (some (.int (0 : Int32)))) (fun h => by rw [Bd.returns] at h; cases h) (BodyLoose.notSynchronized Bd) (fun _ hr => retN X0 hx (t := .boolean) Bd.returns (by simp) (hb hby d2_81) hr) (by decide) (by decide) ?_
                rw [e0]
                exact ⟨by simp only [expd, if_neg c2_1, if_pos c8_2, if_neg c16_3, if_neg c53_8, if_neg c61_9, if_neg c69_10, if_pos c77_11], N0, rfl⟩
              ·
                refine Dn.by (U' := s₁.setTop (mkF m 82 #[.val (.int p0), .val (.int p1)] [])) (fun _ k => XS.icmpYes X0.here hx rfl (pc0 := 77) (pc' := 82) rfl (hb hby d2_77) rfl (flt c77_11).2.1 (by decide) (by decide) k) ?_
                refine Dn.by (U' := s₁.setTop (mkF m 83 #[.val (.int p0), .val (.int p1)] [(.int p1)])) (fun _ k => XS.iloadN X0.here hx rfl (hb hby d2_82) rfl k) ?_
                refine Dn.by (U' := s₁.setTop (mkF m 85 #[.val (.int p0), .val (.int p1)] [(.int (1114111 : Int32)), (.int p1)])) (X0.ldcInt hx hown (mvT hZ (hw _ (List.mem_of_getElem? (i := 34) rfl))) (g := (mkF m 83 #[.val (.int p0), .val (.int p1)] [(.int p1)])) rfl (hb hby d2_83)) ?_
                by_cases c85_12 : (1114111 : Int32) < p1
                ·
                  refine Dn.by (U' := s₁.setTop (mkF m 92 #[.val (.int p0), .val (.int p1)] [])) (fun _ k => XS.icmpYes X0.here hx rfl (pc0 := 85) (pc' := 92) rfl (hb hby d2_85) rfl (tlt c85_12).2.2.1 (by decide) (by decide) k) ?_
                  refine Dn.by (U' := s₁.setTop (mkF m 93 #[.val (.int p0), .val (.int p1)] [(.int (0 : Int32))])) (fun _ k => XS.iconst X0.here hx rfl (hb hby d2_92)  k) ?_
                  refine Dn.out X0 (v := (some (.int (0 : Int32)))) (fun h => by rw [Bd.returns] at h; cases h) (BodyLoose.notSynchronized Bd) (fun _ hr => retN X0 hx (t := .boolean) Bd.returns (by simp) (hb hby d2_93) hr) (by decide) (by decide) ?_
                  rw [e0]
                  exact ⟨by simp only [expd, if_neg c2_1, if_pos c8_2, if_neg c16_3, if_neg c53_8, if_neg c61_9, if_neg c69_10, if_neg c77_11, if_pos c85_12], N0, rfl⟩
                ·
                  refine Dn.by (U' := s₁.setTop (mkF m 88 #[.val (.int p0), .val (.int p1)] [])) (fun _ k => XS.icmpNo X0.here hx rfl (hb hby d2_85) rfl (flt c85_12).2.2.1 k) ?_
                  refine Dn.by (U' := s₁.setTop (mkF m 89 #[.val (.int p0), .val (.int p1)] [(.int (1 : Int32))])) (fun _ k => XS.iconst X0.here hx rfl (hb hby d2_88)  k) ?_
                  refine Dn.by (U' := s₁.setTop (mkF m 93 #[.val (.int p0), .val (.int p1)] [(.int (1 : Int32))])) (fun _ k => XS.goto X0.here hx rfl (pc0 := 89) (pc' := 93) rfl (hb hby d2_89) (by decide) (by decide) k) ?_
                  refine Dn.out X0 (v := (some (.int (1 : Int32)))) (fun h => by rw [Bd.returns] at h; cases h) (BodyLoose.notSynchronized Bd) (fun _ hr => retN X0 hx (t := .boolean) Bd.returns (by simp) (hb hby d2_93) hr) (by decide) (by decide) ?_
                  rw [e0]
                  exact ⟨by simp only [expd, if_neg c2_1, if_pos c8_2, if_neg c16_3, if_neg c53_8, if_neg c61_9, if_neg c69_10, if_neg c77_11, if_neg c85_12], N0, rfl⟩
    ·
      refine Dn.by (U' := s₁.setTop (mkF m 11 #[.val (.int p0), .val (.int p1)] [])) (fun _ k => XS.ifNo X0.here hx rfl (hb hby d2_8) rfl ((if0 _ _).trans (flt c8_2).2.2.1) k) ?_
      refine Dn.by (U' := s₁.setTop (mkF m 12 #[.val (.int p0), .val (.int p1)] [(.int (0 : Int32))])) (fun _ k => XS.iconst X0.here hx rfl (hb hby d2_11)  k) ?_
      refine Dn.out X0 (v := (some (.int (0 : Int32)))) (fun h => by rw [Bd.returns] at h; cases h) (BodyLoose.notSynchronized Bd) (fun _ hr => retN X0 hx (t := .boolean) Bd.returns (by simp) (hb hby d2_12) hr) (by decide) (by decide) ?_
      rw [e0]
      exact ⟨by simp only [expd, if_neg c2_1, if_neg c8_2], N0, rfl⟩
theorem own_lits : (0 : Int32).toInt = 0 ∧ (1 : Int32).toInt = 1 ∧ (2 : Int32).toInt = 2 ∧ (9 : Int32).toInt = 9 ∧ (10 : Int32).toInt = 10 ∧ (13 : Int32).toInt = 13 ∧ (32 : Int32).toInt = 32 ∧ (55295 : Int32).toInt = 55295 ∧ (55296 : Int32).toInt = 55296 ∧ (57344 : Int32).toInt = 57344 ∧ (65533 : Int32).toInt = 65533 ∧ (65534 : Int32).toInt = 65534 ∧ (65536 : Int32).toInt = 65536 ∧ (1114111 : Int32).toInt = 1114111 := by decide
theorem own_h2 (o s1 : Addr) (p : Int32) : hold o p o s1 = expd 2 p := by
  have e : expd 2 p = 1 := rfl
  rw [e]
  unfold hold
  simp only [if_true]
  repeat' split
  all_goals rfl
set_option maxHeartbeats 8000000 in
theorem own_h1 (o sh : Addr) (p : Int32) (h : ¬ o = sh) : hold o p sh o = expd 1 p := by
  obtain ⟨l0, l1, l2, l9, l10, l13, l32, l55295, l55296, l57344, l65533, l65534, l65536, l1114111⟩ := own_lits
  unfold hold expd
  simp only [if_neg h, Int32.lt_iff_toInt_lt, ← Int32.toInt_inj, if_true, if_false]
  repeat' split
  all_goals first | rfl | (exfalso; omega)
set_option maxHeartbeats 8000000 in
theorem own_h0 (o sh s1 : Addr) (p : Int32) (h : ¬ o = sh) (h' : ¬ o = s1) : hold o p sh s1 = expd 0 p := by
  obtain ⟨l0, l1, l2, l9, l10, l13, l32, l55295, l55296, l57344, l65533, l65534, l65536, l1114111⟩ := own_lits
  unfold hold expd
  simp only [if_neg h, if_neg h', Int32.lt_iff_toInt_lt, ← Int32.toInt_inj, if_true, if_false]
  repeat' split
  all_goals first | rfl | (exfalso; omega)
theorem own_piv (j : Int32) : ∃ w : Int32, ([.int (0 : Int32), .int (10 : Int32), .int (13 : Int32), .int (32 : Int32), .int (55296 : Int32), .int (57344 : Int32), .int (65534 : Int32), .int (65536 : Int32), .int (1114112 : Int32), .int (2147483647 : Int32), .int (-2147483648 : Int32)] : List Value).getD j.toNatClampNeg (.int (0 : Int32)) = .int w := by
  generalize j.toNatClampNeg = n
  match n with
  | 0 => exact ⟨_, rfl⟩
  | 1 => exact ⟨_, rfl⟩
  | 2 => exact ⟨_, rfl⟩
  | 3 => exact ⟨_, rfl⟩
  | 4 => exact ⟨_, rfl⟩
  | 5 => exact ⟨_, rfl⟩
  | 6 => exact ⟨_, rfl⟩
  | 7 => exact ⟨_, rfl⟩
  | 8 => exact ⟨_, rfl⟩
  | 9 => exact ⟨_, rfl⟩
  | 10 => exact ⟨_, rfl⟩
  | (k + 11) => exact ⟨_, rfl⟩
theorem own_k (x : Int32) : (x &&& (2147483647 : Int32)) % (3 : Int32) = 0 ∨ (x &&& (2147483647 : Int32)) % (3 : Int32) = 1 ∨ (x &&& (2147483647 : Int32)) % (3 : Int32) = 2 := by
  have a := c_mask x (2147483647 : Int32) 31 (by decide) (by decide)
  have b := c_irem (x &&& (2147483647 : Int32)) (3 : Int32) 3 (by decide)
  generalize hk : (x &&& (2147483647 : Int32)) % (3 : Int32) = k at *
  have e : k.toInt = 0 ∨ k.toInt = 1 ∨ k.toInt = 2 := by omega
  rcases e with e | e | e
  · exact Or.inl (Int32.toInt_inj.mp (e.trans (by decide)))
  · exact Or.inr (Or.inl (Int32.toInt_inj.mp (e.trans (by decide))))
  · exact Or.inr (Or.inr (Int32.toInt_inj.mp (e.trans (by decide))))
theorem ef_0 (m : MethodId) (p0 : Int32) (p1 : Int32) (p2 : Int32) : entryFrame m #[(.int p0), (.int p1), (.int p2)] maxLocals = mkF m 0 #[.val (.int p0), .val (.int p1), .val (.int p2), .unset, .unset, .unset, .unset, .unset, .unset] [] := by first | (simp [entryFrame, mkF, argsToLocals, Value.category, maxLocals]; done) | rfl
def Q0 (Z : State) (p0 : Int32) (p1 : Int32) (p2 : Int32) (s10 : Addr) (s11 : Addr) (sh : Addr) (h0 : Heap) (n0 : Nat) (v : Option Value) (h : Heap) (L : List Loc) : Prop := v = some (.int 1) ∧ Fr n0 L
set_option maxRecDepth 65536 in
set_option maxHeartbeats 40000000 in
theorem rm0 (l : Launch) (Z : State) (a0 : Array Value) (hw : ∀ d ∈ tables_1, d.before a0 Z = true) (ws : List Jvm.Cond) (p0 : Int32) (p1 : Int32) (p2 : Int32) (s10 : Addr) (s11 : Addr) (sh : Addr) (h0 : Heap) (n0 : Nat) (Z0 : n0 ≤ h0.size) (S_s10 : Sta Z Z.heap "com/example/osprey/osprey/transform/Repertoire" "XML_1_0" "Lcom/example/osprey/osprey/transform/Repertoire;" (.ref s10)) (E_s10 : Exa Z h0 s10 "com/example/osprey/osprey/transform/Repertoire") (S_s11 : Sta Z Z.heap "com/example/osprey/osprey/transform/Repertoire" "XML_1_1" "Lcom/example/osprey/osprey/transform/Repertoire;" (.ref s11)) (E_s11 : Exa Z h0 s11 "com/example/osprey/osprey/transform/Repertoire") (S_sh : Sta Z Z.heap "com/example/osprey/osprey/transform/Repertoire" "HTML" "Lcom/example/osprey/osprey/transform/Repertoire;" (.ref sh)) (E_sh : Exa Z h0 sh "com/example/osprey/osprey/transform/Repertoire") (ne01 : ¬ s10 = s11) (ne0h : ¬ s10 = sh) (ne1h : ¬ s11 = sh) (O0 : Old Z n0 h0) :
    MetFree l x (head1 (Jvm.Cond.code x code maxLocals ret :: ws) room_1) (fun a U => a = #[(.int p0), (.int p1), (.int p2)] ∧ Z.Warmed39 U.vm ∧ U.heap = h0) (fun _ _ _ _ _ => True) (fun _ U o U' => ∃ v L, o = .returned v ∧ Q0 Z p0 p1 p2 s10 s11 sh h0 n0 v U'.heap L ∧ FrameEnd U o U' L 16 128) := by
  refine MetFree.of_bodySF (plainFor_of_name pn1) hisR ?_
  intro p e s m args below meth c s₁ Bd hml0 hP hK
  obtain ⟨rfl, hZ, hh⟩ := hP
  have hx := Bd.exec
  have hby := Bd.bytes
  have hml : c.maxLocals = 9 := hml0
  have hown : s.vm.findClass "com/example/osprey/osprey/transform/RepertoireHoldsPinLaw" = some m.cls := findClass_of_methodNamed Bd.named
  have hnm := (name_of_methodNamed Bd.named Bd.method).1
  have X0 : Stand p l e room_1 s m #[(.int p0), (.int p1), (.int p2)] below meth c s₁ [] 0 0 := Stand.of_body Bd
  have e0 : s₁.heap = h0 := by rw [← hh, Bd.state]; rfl
  have N0 := Fr.nil n0
  show Dn p e below s 16 128 (Q0 Z p0 p1 p2 s10 s11 sh h0 n0) (s₁.setTop (entryFrame m #[(.int p0), (.int p1), (.int p2)] maxLocals))
  rw [ef_0]
  refine Dn.by (U' := s₁.setTop (mkF m 1 #[.val (.int p0), .val (.int p1), .val (.int p2), .unset, .unset, .unset, .unset, .unset, .unset] [(.int (3 : Int32))])) (fun _ k => XS.iconst X0.here hx rfl (hb hby at_0)  k) ?_
  obtain ⟨T1, h1, k1, X1, e1, E1, A1, O1, st1⟩ := newR X0 hx hZ hown (hw _ (List.mem_of_getElem? (i := 0) rfl)) (hw _ (List.mem_of_getElem? (i := 1) rfl)) e0 (g := (mkF m 1 #[.val (.int p0), .val (.int p1), .val (.int p2), .unset, .unset, .unset, .unset, .unset, .unset] [(.int (3 : Int32))])) rfl (hb hby at_1) rfl (by decide) (cap := 3) (by decide) (by decide) (by decide) (by decide)
  obtain ⟨b1, g1⟩ : ∃ z, z = h0.size := ⟨_, rfl⟩
  rw [← g1] at A1 st1
  have g_b1 : n0 ≤ b1 := Nat.le_trans Z0 (Nat.le_of_eq g1.symm)
  have sz_b1 : h0.size ≤ b1 := Nat.le_trans (Keep.refl h0 []).1 (Nat.le_of_eq g1.symm)
  have ne_s10_b1 : s10 ≠ b1 := Nat.ne_of_lt (Nat.lt_of_lt_of_le E_s10.lt (Nat.le_of_eq g1.symm))
  have ne_s11_b1 : s11 ≠ b1 := Nat.ne_of_lt (Nat.lt_of_lt_of_le E_s11.lt (Nat.le_of_eq g1.symm))
  have ne_sh_b1 : sh ≠ b1 := Nat.ne_of_lt (Nat.lt_of_lt_of_le E_sh.lt (Nat.le_of_eq g1.symm))
  have K2 : Keep h0 h1 [] := ((Keep.refl h0 []).ext E1)
  have z2 : n0 ≤ h1.size := (Nat.le_trans Z0 E1.1)
  have O2 : Old Z n0 h1 := O0.ext E1
  have V1 : Arv Z h1 b1 k1 (.object "com/example/osprey/osprey/transform/Repertoire") (3 : Int32) [.null, .null, .null] .null := (Arv.new A1 (by decide)).pad (pad_rep [] .null 3)
  refine Dn.by (U' := T1.setTop (mkF m 4 #[.val (.int p0), .val (.int p1), .val (.int p2), .unset, .unset, .unset, .unset, .unset, .unset] [(.ref b1)])) st1 ?_
  refine Dn.by (U' := T1.setTop (mkF m 5 #[.val (.int p0), .val (.int p1), .val (.int p2), .unset, .unset, .unset, .unset, .unset, .unset] [(.ref b1), (.ref b1)])) (fun _ k => XS.dup X1.here hx rfl (hb hby at_4) rfl rfl k) ?_
  refine Dn.by (U' := T1.setTop (mkF m 6 #[.val (.int p0), .val (.int p1), .val (.int p2), .unset, .unset, .unset, .unset, .unset, .unset] [(.int (0 : Int32)), (.ref b1), (.ref b1)])) (fun _ k => XS.iconst X1.here hx rfl (hb hby at_5)  k) ?_
  obtain ⟨T3, X3, e3, st3⟩ := getS2 X1 hx hZ (a0 := a0) hown (host := "") (Or.inl (hw _ (List.mem_of_getElem? (i := 2) rfl))) Via.refl e1 (S_s10.ext O2.2) (g := (mkF m 6 #[.val (.int p0), .val (.int p1), .val (.int p2), .unset, .unset, .unset, .unset, .unset, .unset] [(.int (0 : Int32)), (.ref b1), (.ref b1)])) rfl (hb hby at_6)
  refine Dn.by (U' := T3.setTop (mkF m 9 #[.val (.int p0), .val (.int p1), .val (.int p2), .unset, .unset, .unset, .unset, .unset, .unset] [(.ref s10), (.int (0 : Int32)), (.ref b1), (.ref b1)])) st3 ?_
  obtain ⟨cl4, Ar4, q4, S4, M4, H4, G4⟩ := V1
  obtain ⟨T4, h4, X4, e4, W4, st4⟩ := stR X3 hx hZ e3 Ar4 (j := (0 : Int32)) (inb_of S4 ⟨by decide, by decide⟩) rfl (Sto.ofV Ar4 q4 O1 (Ins.self (E_s10.ext E1))) (g := (mkF m 9 #[.val (.int p0), .val (.int p1), .val (.int p2), .unset, .unset, .unset, .unset, .unset, .unset] [(.ref s10), (.int (0 : Int32)), (.ref b1), (.ref b1)])) rfl rfl (hb hby at_9)
  have V4 := Arv.set Ar4 q4 S4 M4 H4 G4 rfl W4 0 rfl (Nat.le_of_ble_eq_true rfl)
  have K5 : Keep h0 h4 [] := (K2.wr W4 (Or.inr sz_b1))
  have z5 : n0 ≤ h4.size := (Nat.le_trans z2 (Keep.of_wr W4).1)
  have O5 : Old Z n0 h4 := O2.wr W4 g_b1
  have V4b : Arv Z h4 b1 k1 (.object "com/example/osprey/osprey/transform/Repertoire") (3 : Int32) [(.ref s10), .null, .null] .null := V4
  have N4 := Fr.snoc X4 N0 g_b1
  refine Dn.by (U' := T4.setTop (mkF m 10 #[.val (.int p0), .val (.int p1), .val (.int p2), .unset, .unset, .unset, .unset, .unset, .unset] [(.ref b1)])) st4 ?_
  refine Dn.by (U' := T4.setTop (mkF m 11 #[.val (.int p0), .val (.int p1), .val (.int p2), .unset, .unset, .unset, .unset, .unset, .unset] [(.ref b1), (.ref b1)])) (fun _ k => XS.dup X4.here hx rfl (hb hby at_10) rfl rfl k) ?_
  refine Dn.by (U' := T4.setTop (mkF m 12 #[.val (.int p0), .val (.int p1), .val (.int p2), .unset, .unset, .unset, .unset, .unset, .unset] [(.int (1 : Int32)), (.ref b1), (.ref b1)])) (fun _ k => XS.iconst X4.here hx rfl (hb hby at_11)  k) ?_
  obtain ⟨T6, X6, e6, st6⟩ := getS2 X4 hx hZ (a0 := a0) hown (host := "") (Or.inl (hw _ (List.mem_of_getElem? (i := 6) rfl))) Via.refl e4 (S_s11.ext O5.2) (g := (mkF m 12 #[.val (.int p0), .val (.int p1), .val (.int p2), .unset, .unset, .unset, .unset, .unset, .unset] [(.int (1 : Int32)), (.ref b1), (.ref b1)])) rfl (hb hby at_12)
  refine Dn.by (U' := T6.setTop (mkF m 15 #[.val (.int p0), .val (.int p1), .val (.int p2), .unset, .unset, .unset, .unset, .unset, .unset] [(.ref s11), (.int (1 : Int32)), (.ref b1), (.ref b1)])) st6 ?_
  obtain ⟨cl7, Ar7, q7, S7, M7, H7, G7⟩ := V4b
  obtain ⟨T7, h7, X7, e7, W7, st7⟩ := stR X6 hx hZ e6 Ar7 (j := (1 : Int32)) (inb_of S7 ⟨by decide, by decide⟩) rfl (Sto.ofV Ar7 q7 O1 (Ins.self ((E_s11.ext E1).wr W4))) (g := (mkF m 15 #[.val (.int p0), .val (.int p1), .val (.int p2), .unset, .unset, .unset, .unset, .unset, .unset] [(.ref s11), (.int (1 : Int32)), (.ref b1), (.ref b1)])) rfl rfl (hb hby at_15)
  have V7 := Arv.set Ar7 q7 S7 M7 H7 G7 rfl W7 1 rfl (Nat.le_of_ble_eq_true rfl)
  have K8 : Keep h0 h7 [] := (K5.wr W7 (Or.inr sz_b1))
  have z8 : n0 ≤ h7.size := (Nat.le_trans z5 (Keep.of_wr W7).1)
  have O8 : Old Z n0 h7 := O5.wr W7 g_b1
  have V7b : Arv Z h7 b1 k1 (.object "com/example/osprey/osprey/transform/Repertoire") (3 : Int32) [(.ref s10), (.ref s11), .null] .null := V7
  have N7 := Fr.snoc X7 N4 g_b1
  refine Dn.by (U' := T7.setTop (mkF m 16 #[.val (.int p0), .val (.int p1), .val (.int p2), .unset, .unset, .unset, .unset, .unset, .unset] [(.ref b1)])) st7 ?_
  refine Dn.by (U' := T7.setTop (mkF m 17 #[.val (.int p0), .val (.int p1), .val (.int p2), .unset, .unset, .unset, .unset, .unset, .unset] [(.ref b1), (.ref b1)])) (fun _ k => XS.dup X7.here hx rfl (hb hby at_16) rfl rfl k) ?_
  refine Dn.by (U' := T7.setTop (mkF m 18 #[.val (.int p0), .val (.int p1), .val (.int p2), .unset, .unset, .unset, .unset, .unset, .unset] [(.int (2 : Int32)), (.ref b1), (.ref b1)])) (fun _ k => XS.iconst X7.here hx rfl (hb hby at_17)  k) ?_
  obtain ⟨T9, X9, e9, st9⟩ := getS2 X7 hx hZ (a0 := a0) hown (host := "") (Or.inl (hw _ (List.mem_of_getElem? (i := 8) rfl))) Via.refl e7 (S_sh.ext O8.2) (g := (mkF m 18 #[.val (.int p0), .val (.int p1), .val (.int p2), .unset, .unset, .unset, .unset, .unset, .unset] [(.int (2 : Int32)), (.ref b1), (.ref b1)])) rfl (hb hby at_18)
  refine Dn.by (U' := T9.setTop (mkF m 21 #[.val (.int p0), .val (.int p1), .val (.int p2), .unset, .unset, .unset, .unset, .unset, .unset] [(.ref sh), (.int (2 : Int32)), (.ref b1), (.ref b1)])) st9 ?_
  obtain ⟨cl10, Ar10, q10, S10, M10, H10, G10⟩ := V7b
  obtain ⟨T10, h10, X10, e10, W10, st10⟩ := stR X9 hx hZ e9 Ar10 (j := (2 : Int32)) (inb_of S10 ⟨by decide, by decide⟩) rfl (Sto.ofV Ar10 q10 O1 (Ins.self (((E_sh.ext E1).wr W4).wr W7))) (g := (mkF m 21 #[.val (.int p0), .val (.int p1), .val (.int p2), .unset, .unset, .unset, .unset, .unset, .unset] [(.ref sh), (.int (2 : Int32)), (.ref b1), (.ref b1)])) rfl rfl (hb hby at_21)
  have V10 := Arv.set Ar10 q10 S10 M10 H10 G10 rfl W10 2 rfl (Nat.le_of_ble_eq_true rfl)
  have K11 : Keep h0 h10 [] := (K8.wr W10 (Or.inr sz_b1))
  have z11 : n0 ≤ h10.size := (Nat.le_trans z8 (Keep.of_wr W10).1)
  have O11 : Old Z n0 h10 := O8.wr W10 g_b1
  have V10b : Arv Z h10 b1 k1 (.object "com/example/osprey/osprey/transform/Repertoire") (3 : Int32) [(.ref s10), (.ref s11), (.ref sh)] .null := V10
  have N10 := Fr.snoc X10 N7 g_b1
  refine Dn.by (U' := T10.setTop (mkF m 22 #[.val (.int p0), .val (.int p1), .val (.int p2), .unset, .unset, .unset, .unset, .unset, .unset] [(.ref b1)])) st10 ?_
  refine Dn.by (U' := T10.setTop (mkF m 23 #[.val (.int p0), .val (.int p1), .val (.int p2), .val (.ref b1), .unset, .unset, .unset, .unset, .unset] [])) (fun _ k => XS.astoreN X10.here hx rfl (hb hby at_22) rfl rfl (l' := #[.val (.int p0), .val (.int p1), .val (.int p2), .val (.ref b1), .unset, .unset, .unset, .unset, .unset]) rfl k) ?_
  refine Dn.by (U' := T10.setTop (mkF m 25 #[.val (.int p0), .val (.int p1), .val (.int p2), .val (.ref b1), .unset, .unset, .unset, .unset, .unset] [(.int (11 : Int32))])) (fun _ k => XS.bipush X10.here hx rfl (hb hby at_23)  k) ?_
  obtain ⟨T12, h12, k12, X12, e12, E12, A12, st12⟩ := newP X10 hx hZ (hw _ (List.mem_of_getElem? (i := 10) rfl)) e10 (g := (mkF m 25 #[.val (.int p0), .val (.int p1), .val (.int p2), .val (.ref b1), .unset, .unset, .unset, .unset, .unset] [(.int (11 : Int32))])) rfl (hb hby at_25) rfl (by decide) (cap := 11) (by decide) (by decide) (by decide) (by decide)
  obtain ⟨b12, g12⟩ : ∃ z, z = h10.size := ⟨_, rfl⟩
  rw [← g12] at A12 st12
  have g_b12 : n0 ≤ b12 := Nat.le_trans z11 (Nat.le_of_eq g12.symm)
  have sz_b12 : h0.size ≤ b12 := Nat.le_trans K11.1 (Nat.le_of_eq g12.symm)
  have ne_s10_b12 : s10 ≠ b12 := Nat.ne_of_lt (Nat.lt_of_lt_of_le ((((E_s10.ext E1).wr W4).wr W7).wr W10).lt (Nat.le_of_eq g12.symm))
  have ne_s11_b12 : s11 ≠ b12 := Nat.ne_of_lt (Nat.lt_of_lt_of_le ((((E_s11.ext E1).wr W4).wr W7).wr W10).lt (Nat.le_of_eq g12.symm))
  have ne_sh_b12 : sh ≠ b12 := Nat.ne_of_lt (Nat.lt_of_lt_of_le ((((E_sh.ext E1).wr W4).wr W7).wr W10).lt (Nat.le_of_eq g12.symm))
  have ne_b1_b12 : b1 ≠ b12 := Nat.ne_of_lt (Nat.lt_of_lt_of_le V10b.lt (Nat.le_of_eq g12.symm))
  have K13 : Keep h0 h12 [] := (K11.ext E12)
  have z13 : n0 ≤ h12.size := (Nat.le_trans z11 E12.1)
  have O13 : Old Z n0 h12 := O11.ext E12
  have V12 : Arv Z h12 b12 k12 .int (11 : Int32) [(.int (0 : Int32)), (.int (0 : Int32)), (.int (0 : Int32)), (.int (0 : Int32)), (.int (0 : Int32)), (.int (0 : Int32)), (.int (0 : Int32)), (.int (0 : Int32)), (.int (0 : Int32)), (.int (0 : Int32)), (.int (0 : Int32))] (.int (0 : Int32)) := (Arv.new A12 (by decide)).pad (pad_rep [] (.int (0 : Int32)) 11)
  refine Dn.by (U' := T12.setTop (mkF m 27 #[.val (.int p0), .val (.int p1), .val (.int p2), .val (.ref b1), .unset, .unset, .unset, .unset, .unset] [(.ref b12)])) st12 ?_
  refine Dn.by (U' := T12.setTop (mkF m 28 #[.val (.int p0), .val (.int p1), .val (.int p2), .val (.ref b1), .unset, .unset, .unset, .unset, .unset] [(.ref b12), (.ref b12)])) (fun _ k => XS.dup X12.here hx rfl (hb hby at_27) rfl rfl k) ?_
  refine Dn.by (U' := T12.setTop (mkF m 29 #[.val (.int p0), .val (.int p1), .val (.int p2), .val (.ref b1), .unset, .unset, .unset, .unset, .unset] [(.int (0 : Int32)), (.ref b12), (.ref b12)])) (fun _ k => XS.iconst X12.here hx rfl (hb hby at_28)  k) ?_
  refine Dn.by (U' := T12.setTop (mkF m 30 #[.val (.int p0), .val (.int p1), .val (.int p2), .val (.ref b1), .unset, .unset, .unset, .unset, .unset] [(.int (0 : Int32)), (.int (0 : Int32)), (.ref b12), (.ref b12)])) (fun _ k => XS.iconst X12.here hx rfl (hb hby at_29)  k) ?_
  obtain ⟨cl14, Ar14, q14, S14, M14, H14, G14⟩ := V12
  obtain ⟨T14, h14, X14, e14, W14, st14⟩ := stI X12 hx hZ e12 Ar14 (j := (0 : Int32)) (inb_of S14 ⟨by decide, by decide⟩) (g := (mkF m 30 #[.val (.int p0), .val (.int p1), .val (.int p2), .val (.ref b1), .unset, .unset, .unset, .unset, .unset] [(.int (0 : Int32)), (.int (0 : Int32)), (.ref b12), (.ref b12)])) rfl rfl (hb hby at_30)
  have V14 := Arv.set Ar14 q14 S14 M14 H14 G14 rfl W14 0 rfl (Nat.le_of_ble_eq_true rfl)
  have K15 : Keep h0 h14 [] := (K13.wr W14 (Or.inr sz_b12))
  have z15 : n0 ≤ h14.size := (Nat.le_trans z13 (Keep.of_wr W14).1)
  have O15 : Old Z n0 h14 := O13.wr W14 g_b12
  have V14b : Arv Z h14 b12 k12 .int (11 : Int32) [(.int (0 : Int32)), (.int (0 : Int32)), (.int (0 : Int32)), (.int (0 : Int32)), (.int (0 : Int32)), (.int (0 : Int32)), (.int (0 : Int32)), (.int (0 : Int32)), (.int (0 : Int32)), (.int (0 : Int32)), (.int (0 : Int32))] (.int (0 : Int32)) := V14
  have N14 := Fr.snoc X14 N10 g_b12
  refine Dn.by (U' := T14.setTop (mkF m 31 #[.val (.int p0), .val (.int p1), .val (.int p2), .val (.ref b1), .unset, .unset, .unset, .unset, .unset] [(.ref b12)])) st14 ?_
  refine Dn.by (U' := T14.setTop (mkF m 32 #[.val (.int p0), .val (.int p1), .val (.int p2), .val (.ref b1), .unset, .unset, .unset, .unset, .unset] [(.ref b12), (.ref b12)])) (fun _ k => XS.dup X14.here hx rfl (hb hby at_31) rfl rfl k) ?_
  refine Dn.by (U' := T14.setTop (mkF m 33 #[.val (.int p0), .val (.int p1), .val (.int p2), .val (.ref b1), .unset, .unset, .unset, .unset, .unset] [(.int (1 : Int32)), (.ref b12), (.ref b12)])) (fun _ k => XS.iconst X14.here hx rfl (hb hby at_32)  k) ?_
  refine Dn.by (U' := T14.setTop (mkF m 35 #[.val (.int p0), .val (.int p1), .val (.int p2), .val (.ref b1), .unset, .unset, .unset, .unset, .unset] [(.int (10 : Int32)), (.int (1 : Int32)), (.ref b12), (.ref b12)])) (fun _ k => XS.bipush X14.here hx rfl (hb hby at_33)  k) ?_
  obtain ⟨cl16, Ar16, q16, S16, M16, H16, G16⟩ := V14b
  obtain ⟨T16, h16, X16, e16, W16, st16⟩ := stI X14 hx hZ e14 Ar16 (j := (1 : Int32)) (inb_of S16 ⟨by decide, by decide⟩) (g := (mkF m 35 #[.val (.int p0), .val (.int p1), .val (.int p2), .val (.ref b1), .unset, .unset, .unset, .unset, .unset] [(.int (10 : Int32)), (.int (1 : Int32)), (.ref b12), (.ref b12)])) rfl rfl (hb hby at_35)
  have V16 := Arv.set Ar16 q16 S16 M16 H16 G16 rfl W16 1 rfl (Nat.le_of_ble_eq_true rfl)
  have K17 : Keep h0 h16 [] := (K15.wr W16 (Or.inr sz_b12))
  have z17 : n0 ≤ h16.size := (Nat.le_trans z15 (Keep.of_wr W16).1)
  have O17 : Old Z n0 h16 := O15.wr W16 g_b12
  have V16b : Arv Z h16 b12 k12 .int (11 : Int32) [(.int (0 : Int32)), (.int (10 : Int32)), (.int (0 : Int32)), (.int (0 : Int32)), (.int (0 : Int32)), (.int (0 : Int32)), (.int (0 : Int32)), (.int (0 : Int32)), (.int (0 : Int32)), (.int (0 : Int32)), (.int (0 : Int32))] (.int (0 : Int32)) := V16
  have N16 := Fr.snoc X16 N14 g_b12
  refine Dn.by (U' := T16.setTop (mkF m 36 #[.val (.int p0), .val (.int p1), .val (.int p2), .val (.ref b1), .unset, .unset, .unset, .unset, .unset] [(.ref b12)])) st16 ?_
  refine Dn.by (U' := T16.setTop (mkF m 37 #[.val (.int p0), .val (.int p1), .val (.int p2), .val (.ref b1), .unset, .unset, .unset, .unset, .unset] [(.ref b12), (.ref b12)])) (fun _ k => XS.dup X16.here hx rfl (hb hby at_36) rfl rfl k) ?_
  refine Dn.by (U' := T16.setTop (mkF m 38 #[.val (.int p0), .val (.int p1), .val (.int p2), .val (.ref b1), .unset, .unset, .unset, .unset, .unset] [(.int (2 : Int32)), (.ref b12), (.ref b12)])) (fun _ k => XS.iconst X16.here hx rfl (hb hby at_37)  k) ?_
  refine Dn.by (U' := T16.setTop (mkF m 40 #[.val (.int p0), .val (.int p1), .val (.int p2), .val (.ref b1), .unset, .unset, .unset, .unset, .unset] [(.int (13 : Int32)), (.int (2 : Int32)), (.ref b12), (.ref b12)])) (fun _ k => XS.bipush X16.here hx rfl (hb hby at_38)  k) ?_
  obtain ⟨cl18, Ar18, q18, S18, M18, H18, G18⟩ := V16b
  obtain ⟨T18, h18, X18, e18, W18, st18⟩ := stI X16 hx hZ e16 Ar18 (j := (2 : Int32)) (inb_of S18 ⟨by decide, by decide⟩) (g := (mkF m 40 #[.val (.int p0), .val (.int p1), .val (.int p2), .val (.ref b1), .unset, .unset, .unset, .unset, .unset] [(.int (13 : Int32)), (.int (2 : Int32)), (.ref b12), (.ref b12)])) rfl rfl (hb hby at_40)
  have V18 := Arv.set Ar18 q18 S18 M18 H18 G18 rfl W18 2 rfl (Nat.le_of_ble_eq_true rfl)
  have K19 : Keep h0 h18 [] := (K17.wr W18 (Or.inr sz_b12))
  have z19 : n0 ≤ h18.size := (Nat.le_trans z17 (Keep.of_wr W18).1)
  have O19 : Old Z n0 h18 := O17.wr W18 g_b12
  have V18b : Arv Z h18 b12 k12 .int (11 : Int32) [(.int (0 : Int32)), (.int (10 : Int32)), (.int (13 : Int32)), (.int (0 : Int32)), (.int (0 : Int32)), (.int (0 : Int32)), (.int (0 : Int32)), (.int (0 : Int32)), (.int (0 : Int32)), (.int (0 : Int32)), (.int (0 : Int32))] (.int (0 : Int32)) := V18
  have N18 := Fr.snoc X18 N16 g_b12
  refine Dn.by (U' := T18.setTop (mkF m 41 #[.val (.int p0), .val (.int p1), .val (.int p2), .val (.ref b1), .unset, .unset, .unset, .unset, .unset] [(.ref b12)])) st18 ?_
  refine Dn.by (U' := T18.setTop (mkF m 42 #[.val (.int p0), .val (.int p1), .val (.int p2), .val (.ref b1), .unset, .unset, .unset, .unset, .unset] [(.ref b12), (.ref b12)])) (fun _ k => XS.dup X18.here hx rfl (hb hby at_41) rfl rfl k) ?_
  refine Dn.by (U' := T18.setTop (mkF m 43 #[.val (.int p0), .val (.int p1), .val (.int p2), .val (.ref b1), .unset, .unset, .unset, .unset, .unset] [(.int (3 : Int32)), (.ref b12), (.ref b12)])) (fun _ k => XS.iconst X18.here hx rfl (hb hby at_42)  k) ?_
  refine Dn.by (U' := T18.setTop (mkF m 45 #[.val (.int p0), .val (.int p1), .val (.int p2), .val (.ref b1), .unset, .unset, .unset, .unset, .unset] [(.int (32 : Int32)), (.int (3 : Int32)), (.ref b12), (.ref b12)])) (fun _ k => XS.bipush X18.here hx rfl (hb hby at_43)  k) ?_
  obtain ⟨cl20, Ar20, q20, S20, M20, H20, G20⟩ := V18b
  obtain ⟨T20, h20, X20, e20, W20, st20⟩ := stI X18 hx hZ e18 Ar20 (j := (3 : Int32)) (inb_of S20 ⟨by decide, by decide⟩) (g := (mkF m 45 #[.val (.int p0), .val (.int p1), .val (.int p2), .val (.ref b1), .unset, .unset, .unset, .unset, .unset] [(.int (32 : Int32)), (.int (3 : Int32)), (.ref b12), (.ref b12)])) rfl rfl (hb hby at_45)
  have V20 := Arv.set Ar20 q20 S20 M20 H20 G20 rfl W20 3 rfl (Nat.le_of_ble_eq_true rfl)
  have K21 : Keep h0 h20 [] := (K19.wr W20 (Or.inr sz_b12))
  have z21 : n0 ≤ h20.size := (Nat.le_trans z19 (Keep.of_wr W20).1)
  have O21 : Old Z n0 h20 := O19.wr W20 g_b12
  have V20b : Arv Z h20 b12 k12 .int (11 : Int32) [(.int (0 : Int32)), (.int (10 : Int32)), (.int (13 : Int32)), (.int (32 : Int32)), (.int (0 : Int32)), (.int (0 : Int32)), (.int (0 : Int32)), (.int (0 : Int32)), (.int (0 : Int32)), (.int (0 : Int32)), (.int (0 : Int32))] (.int (0 : Int32)) := V20
  have N20 := Fr.snoc X20 N18 g_b12
  refine Dn.by (U' := T20.setTop (mkF m 46 #[.val (.int p0), .val (.int p1), .val (.int p2), .val (.ref b1), .unset, .unset, .unset, .unset, .unset] [(.ref b12)])) st20 ?_
  refine Dn.by (U' := T20.setTop (mkF m 47 #[.val (.int p0), .val (.int p1), .val (.int p2), .val (.ref b1), .unset, .unset, .unset, .unset, .unset] [(.ref b12), (.ref b12)])) (fun _ k => XS.dup X20.here hx rfl (hb hby at_46) rfl rfl k) ?_
  refine Dn.by (U' := T20.setTop (mkF m 48 #[.val (.int p0), .val (.int p1), .val (.int p2), .val (.ref b1), .unset, .unset, .unset, .unset, .unset] [(.int (4 : Int32)), (.ref b12), (.ref b12)])) (fun _ k => XS.iconst X20.here hx rfl (hb hby at_47)  k) ?_
  refine Dn.by (U' := T20.setTop (mkF m 50 #[.val (.int p0), .val (.int p1), .val (.int p2), .val (.ref b1), .unset, .unset, .unset, .unset, .unset] [(.int (55296 : Int32)), (.int (4 : Int32)), (.ref b12), (.ref b12)])) (X20.ldcInt hx hown (mvT hZ (hw _ (List.mem_of_getElem? (i := 11) rfl))) (g := (mkF m 48 #[.val (.int p0), .val (.int p1), .val (.int p2), .val (.ref b1), .unset, .unset, .unset, .unset, .unset] [(.int (4 : Int32)), (.ref b12), (.ref b12)])) rfl (hb hby at_48)) ?_
  obtain ⟨cl22, Ar22, q22, S22, M22, H22, G22⟩ := V20b
  obtain ⟨T22, h22, X22, e22, W22, st22⟩ := stI X20 hx hZ e20 Ar22 (j := (4 : Int32)) (inb_of S22 ⟨by decide, by decide⟩) (g := (mkF m 50 #[.val (.int p0), .val (.int p1), .val (.int p2), .val (.ref b1), .unset, .unset, .unset, .unset, .unset] [(.int (55296 : Int32)), (.int (4 : Int32)), (.ref b12), (.ref b12)])) rfl rfl (hb hby at_50)
  have V22 := Arv.set Ar22 q22 S22 M22 H22 G22 rfl W22 4 rfl (Nat.le_of_ble_eq_true rfl)
  have K23 : Keep h0 h22 [] := (K21.wr W22 (Or.inr sz_b12))
  have z23 : n0 ≤ h22.size := (Nat.le_trans z21 (Keep.of_wr W22).1)
  have O23 : Old Z n0 h22 := O21.wr W22 g_b12
  have V22b : Arv Z h22 b12 k12 .int (11 : Int32) [(.int (0 : Int32)), (.int (10 : Int32)), (.int (13 : Int32)), (.int (32 : Int32)), (.int (55296 : Int32)), (.int (0 : Int32)), (.int (0 : Int32)), (.int (0 : Int32)), (.int (0 : Int32)), (.int (0 : Int32)), (.int (0 : Int32))] (.int (0 : Int32)) := V22
  have N22 := Fr.snoc X22 N20 g_b12
  refine Dn.by (U' := T22.setTop (mkF m 51 #[.val (.int p0), .val (.int p1), .val (.int p2), .val (.ref b1), .unset, .unset, .unset, .unset, .unset] [(.ref b12)])) st22 ?_
  refine Dn.by (U' := T22.setTop (mkF m 52 #[.val (.int p0), .val (.int p1), .val (.int p2), .val (.ref b1), .unset, .unset, .unset, .unset, .unset] [(.ref b12), (.ref b12)])) (fun _ k => XS.dup X22.here hx rfl (hb hby at_51) rfl rfl k) ?_
  refine Dn.by (U' := T22.setTop (mkF m 53 #[.val (.int p0), .val (.int p1), .val (.int p2), .val (.ref b1), .unset, .unset, .unset, .unset, .unset] [(.int (5 : Int32)), (.ref b12), (.ref b12)])) (fun _ k => XS.iconst X22.here hx rfl (hb hby at_52)  k) ?_
  refine Dn.by (U' := T22.setTop (mkF m 55 #[.val (.int p0), .val (.int p1), .val (.int p2), .val (.ref b1), .unset, .unset, .unset, .unset, .unset] [(.int (57344 : Int32)), (.int (5 : Int32)), (.ref b12), (.ref b12)])) (X22.ldcInt hx hown (mvT hZ (hw _ (List.mem_of_getElem? (i := 12) rfl))) (g := (mkF m 53 #[.val (.int p0), .val (.int p1), .val (.int p2), .val (.ref b1), .unset, .unset, .unset, .unset, .unset] [(.int (5 : Int32)), (.ref b12), (.ref b12)])) rfl (hb hby at_53)) ?_
  obtain ⟨cl24, Ar24, q24, S24, M24, H24, G24⟩ := V22b
  obtain ⟨T24, h24, X24, e24, W24, st24⟩ := stI X22 hx hZ e22 Ar24 (j := (5 : Int32)) (inb_of S24 ⟨by decide, by decide⟩) (g := (mkF m 55 #[.val (.int p0), .val (.int p1), .val (.int p2), .val (.ref b1), .unset, .unset, .unset, .unset, .unset] [(.int (57344 : Int32)), (.int (5 : Int32)), (.ref b12), (.ref b12)])) rfl rfl (hb hby at_55)
  have V24 := Arv.set Ar24 q24 S24 M24 H24 G24 rfl W24 5 rfl (Nat.le_of_ble_eq_true rfl)
  have K25 : Keep h0 h24 [] := (K23.wr W24 (Or.inr sz_b12))
  have z25 : n0 ≤ h24.size := (Nat.le_trans z23 (Keep.of_wr W24).1)
  have O25 : Old Z n0 h24 := O23.wr W24 g_b12
  have V24b : Arv Z h24 b12 k12 .int (11 : Int32) [(.int (0 : Int32)), (.int (10 : Int32)), (.int (13 : Int32)), (.int (32 : Int32)), (.int (55296 : Int32)), (.int (57344 : Int32)), (.int (0 : Int32)), (.int (0 : Int32)), (.int (0 : Int32)), (.int (0 : Int32)), (.int (0 : Int32))] (.int (0 : Int32)) := V24
  have N24 := Fr.snoc X24 N22 g_b12
  refine Dn.by (U' := T24.setTop (mkF m 56 #[.val (.int p0), .val (.int p1), .val (.int p2), .val (.ref b1), .unset, .unset, .unset, .unset, .unset] [(.ref b12)])) st24 ?_
  refine Dn.by (U' := T24.setTop (mkF m 57 #[.val (.int p0), .val (.int p1), .val (.int p2), .val (.ref b1), .unset, .unset, .unset, .unset, .unset] [(.ref b12), (.ref b12)])) (fun _ k => XS.dup X24.here hx rfl (hb hby at_56) rfl rfl k) ?_
  refine Dn.by (U' := T24.setTop (mkF m 59 #[.val (.int p0), .val (.int p1), .val (.int p2), .val (.ref b1), .unset, .unset, .unset, .unset, .unset] [(.int (6 : Int32)), (.ref b12), (.ref b12)])) (fun _ k => XS.bipush X24.here hx rfl (hb hby at_57)  k) ?_
  refine Dn.by (U' := T24.setTop (mkF m 61 #[.val (.int p0), .val (.int p1), .val (.int p2), .val (.ref b1), .unset, .unset, .unset, .unset, .unset] [(.int (65534 : Int32)), (.int (6 : Int32)), (.ref b12), (.ref b12)])) (X24.ldcInt hx hown (mvT hZ (hw _ (List.mem_of_getElem? (i := 13) rfl))) (g := (mkF m 59 #[.val (.int p0), .val (.int p1), .val (.int p2), .val (.ref b1), .unset, .unset, .unset, .unset, .unset] [(.int (6 : Int32)), (.ref b12), (.ref b12)])) rfl (hb hby at_59)) ?_
  obtain ⟨cl26, Ar26, q26, S26, M26, H26, G26⟩ := V24b
  obtain ⟨T26, h26, X26, e26, W26, st26⟩ := stI X24 hx hZ e24 Ar26 (j := (6 : Int32)) (inb_of S26 ⟨by decide, by decide⟩) (g := (mkF m 61 #[.val (.int p0), .val (.int p1), .val (.int p2), .val (.ref b1), .unset, .unset, .unset, .unset, .unset] [(.int (65534 : Int32)), (.int (6 : Int32)), (.ref b12), (.ref b12)])) rfl rfl (hb hby at_61)
  have V26 := Arv.set Ar26 q26 S26 M26 H26 G26 rfl W26 6 rfl (Nat.le_of_ble_eq_true rfl)
  have K27 : Keep h0 h26 [] := (K25.wr W26 (Or.inr sz_b12))
  have z27 : n0 ≤ h26.size := (Nat.le_trans z25 (Keep.of_wr W26).1)
  have O27 : Old Z n0 h26 := O25.wr W26 g_b12
  have V26b : Arv Z h26 b12 k12 .int (11 : Int32) [(.int (0 : Int32)), (.int (10 : Int32)), (.int (13 : Int32)), (.int (32 : Int32)), (.int (55296 : Int32)), (.int (57344 : Int32)), (.int (65534 : Int32)), (.int (0 : Int32)), (.int (0 : Int32)), (.int (0 : Int32)), (.int (0 : Int32))] (.int (0 : Int32)) := V26
  have N26 := Fr.snoc X26 N24 g_b12
  refine Dn.by (U' := T26.setTop (mkF m 62 #[.val (.int p0), .val (.int p1), .val (.int p2), .val (.ref b1), .unset, .unset, .unset, .unset, .unset] [(.ref b12)])) st26 ?_
  refine Dn.by (U' := T26.setTop (mkF m 63 #[.val (.int p0), .val (.int p1), .val (.int p2), .val (.ref b1), .unset, .unset, .unset, .unset, .unset] [(.ref b12), (.ref b12)])) (fun _ k => XS.dup X26.here hx rfl (hb hby at_62) rfl rfl k) ?_
  refine Dn.by (U' := T26.setTop (mkF m 65 #[.val (.int p0), .val (.int p1), .val (.int p2), .val (.ref b1), .unset, .unset, .unset, .unset, .unset] [(.int (7 : Int32)), (.ref b12), (.ref b12)])) (fun _ k => XS.bipush X26.here hx rfl (hb hby at_63)  k) ?_
  refine Dn.by (U' := T26.setTop (mkF m 67 #[.val (.int p0), .val (.int p1), .val (.int p2), .val (.ref b1), .unset, .unset, .unset, .unset, .unset] [(.int (65536 : Int32)), (.int (7 : Int32)), (.ref b12), (.ref b12)])) (X26.ldcInt hx hown (mvT hZ (hw _ (List.mem_of_getElem? (i := 14) rfl))) (g := (mkF m 65 #[.val (.int p0), .val (.int p1), .val (.int p2), .val (.ref b1), .unset, .unset, .unset, .unset, .unset] [(.int (7 : Int32)), (.ref b12), (.ref b12)])) rfl (hb hby at_65)) ?_
  obtain ⟨cl28, Ar28, q28, S28, M28, H28, G28⟩ := V26b
  obtain ⟨T28, h28, X28, e28, W28, st28⟩ := stI X26 hx hZ e26 Ar28 (j := (7 : Int32)) (inb_of S28 ⟨by decide, by decide⟩) (g := (mkF m 67 #[.val (.int p0), .val (.int p1), .val (.int p2), .val (.ref b1), .unset, .unset, .unset, .unset, .unset] [(.int (65536 : Int32)), (.int (7 : Int32)), (.ref b12), (.ref b12)])) rfl rfl (hb hby at_67)
  have V28 := Arv.set Ar28 q28 S28 M28 H28 G28 rfl W28 7 rfl (Nat.le_of_ble_eq_true rfl)
  have K29 : Keep h0 h28 [] := (K27.wr W28 (Or.inr sz_b12))
  have z29 : n0 ≤ h28.size := (Nat.le_trans z27 (Keep.of_wr W28).1)
  have O29 : Old Z n0 h28 := O27.wr W28 g_b12
  have V28b : Arv Z h28 b12 k12 .int (11 : Int32) [(.int (0 : Int32)), (.int (10 : Int32)), (.int (13 : Int32)), (.int (32 : Int32)), (.int (55296 : Int32)), (.int (57344 : Int32)), (.int (65534 : Int32)), (.int (65536 : Int32)), (.int (0 : Int32)), (.int (0 : Int32)), (.int (0 : Int32))] (.int (0 : Int32)) := V28
  have N28 := Fr.snoc X28 N26 g_b12
  refine Dn.by (U' := T28.setTop (mkF m 68 #[.val (.int p0), .val (.int p1), .val (.int p2), .val (.ref b1), .unset, .unset, .unset, .unset, .unset] [(.ref b12)])) st28 ?_
  refine Dn.by (U' := T28.setTop (mkF m 69 #[.val (.int p0), .val (.int p1), .val (.int p2), .val (.ref b1), .unset, .unset, .unset, .unset, .unset] [(.ref b12), (.ref b12)])) (fun _ k => XS.dup X28.here hx rfl (hb hby at_68) rfl rfl k) ?_
  refine Dn.by (U' := T28.setTop (mkF m 71 #[.val (.int p0), .val (.int p1), .val (.int p2), .val (.ref b1), .unset, .unset, .unset, .unset, .unset] [(.int (8 : Int32)), (.ref b12), (.ref b12)])) (fun _ k => XS.bipush X28.here hx rfl (hb hby at_69)  k) ?_
  refine Dn.by (U' := T28.setTop (mkF m 73 #[.val (.int p0), .val (.int p1), .val (.int p2), .val (.ref b1), .unset, .unset, .unset, .unset, .unset] [(.int (1114112 : Int32)), (.int (8 : Int32)), (.ref b12), (.ref b12)])) (X28.ldcInt hx hown (mvT hZ (hw _ (List.mem_of_getElem? (i := 15) rfl))) (g := (mkF m 71 #[.val (.int p0), .val (.int p1), .val (.int p2), .val (.ref b1), .unset, .unset, .unset, .unset, .unset] [(.int (8 : Int32)), (.ref b12), (.ref b12)])) rfl (hb hby at_71)) ?_
  obtain ⟨cl30, Ar30, q30, S30, M30, H30, G30⟩ := V28b
  obtain ⟨T30, h30, X30, e30, W30, st30⟩ := stI X28 hx hZ e28 Ar30 (j := (8 : Int32)) (inb_of S30 ⟨by decide, by decide⟩) (g := (mkF m 73 #[.val (.int p0), .val (.int p1), .val (.int p2), .val (.ref b1), .unset, .unset, .unset, .unset, .unset] [(.int (1114112 : Int32)), (.int (8 : Int32)), (.ref b12), (.ref b12)])) rfl rfl (hb hby at_73)
  have V30 := Arv.set Ar30 q30 S30 M30 H30 G30 rfl W30 8 rfl (Nat.le_of_ble_eq_true rfl)
  have K31 : Keep h0 h30 [] := (K29.wr W30 (Or.inr sz_b12))
  have z31 : n0 ≤ h30.size := (Nat.le_trans z29 (Keep.of_wr W30).1)
  have O31 : Old Z n0 h30 := O29.wr W30 g_b12
  have V30b : Arv Z h30 b12 k12 .int (11 : Int32) [(.int (0 : Int32)), (.int (10 : Int32)), (.int (13 : Int32)), (.int (32 : Int32)), (.int (55296 : Int32)), (.int (57344 : Int32)), (.int (65534 : Int32)), (.int (65536 : Int32)), (.int (1114112 : Int32)), (.int (0 : Int32)), (.int (0 : Int32))] (.int (0 : Int32)) := V30
  have N30 := Fr.snoc X30 N28 g_b12
  refine Dn.by (U' := T30.setTop (mkF m 74 #[.val (.int p0), .val (.int p1), .val (.int p2), .val (.ref b1), .unset, .unset, .unset, .unset, .unset] [(.ref b12)])) st30 ?_
  refine Dn.by (U' := T30.setTop (mkF m 75 #[.val (.int p0), .val (.int p1), .val (.int p2), .val (.ref b1), .unset, .unset, .unset, .unset, .unset] [(.ref b12), (.ref b12)])) (fun _ k => XS.dup X30.here hx rfl (hb hby at_74) rfl rfl k) ?_
  refine Dn.by (U' := T30.setTop (mkF m 77 #[.val (.int p0), .val (.int p1), .val (.int p2), .val (.ref b1), .unset, .unset, .unset, .unset, .unset] [(.int (9 : Int32)), (.ref b12), (.ref b12)])) (fun _ k => XS.bipush X30.here hx rfl (hb hby at_75)  k) ?_
  refine Dn.by (U' := T30.setTop (mkF m 79 #[.val (.int p0), .val (.int p1), .val (.int p2), .val (.ref b1), .unset, .unset, .unset, .unset, .unset] [(.int (2147483647 : Int32)), (.int (9 : Int32)), (.ref b12), (.ref b12)])) (X30.ldcInt hx hown (mvT hZ (hw _ (List.mem_of_getElem? (i := 16) rfl))) (g := (mkF m 77 #[.val (.int p0), .val (.int p1), .val (.int p2), .val (.ref b1), .unset, .unset, .unset, .unset, .unset] [(.int (9 : Int32)), (.ref b12), (.ref b12)])) rfl (hb hby at_77)) ?_
  obtain ⟨cl32, Ar32, q32, S32, M32, H32, G32⟩ := V30b
  obtain ⟨T32, h32, X32, e32, W32, st32⟩ := stI X30 hx hZ e30 Ar32 (j := (9 : Int32)) (inb_of S32 ⟨by decide, by decide⟩) (g := (mkF m 79 #[.val (.int p0), .val (.int p1), .val (.int p2), .val (.ref b1), .unset, .unset, .unset, .unset, .unset] [(.int (2147483647 : Int32)), (.int (9 : Int32)), (.ref b12), (.ref b12)])) rfl rfl (hb hby at_79)
  have V32 := Arv.set Ar32 q32 S32 M32 H32 G32 rfl W32 9 rfl (Nat.le_of_ble_eq_true rfl)
  have K33 : Keep h0 h32 [] := (K31.wr W32 (Or.inr sz_b12))
  have z33 : n0 ≤ h32.size := (Nat.le_trans z31 (Keep.of_wr W32).1)
  have O33 : Old Z n0 h32 := O31.wr W32 g_b12
  have V32b : Arv Z h32 b12 k12 .int (11 : Int32) [(.int (0 : Int32)), (.int (10 : Int32)), (.int (13 : Int32)), (.int (32 : Int32)), (.int (55296 : Int32)), (.int (57344 : Int32)), (.int (65534 : Int32)), (.int (65536 : Int32)), (.int (1114112 : Int32)), (.int (2147483647 : Int32)), (.int (0 : Int32))] (.int (0 : Int32)) := V32
  have N32 := Fr.snoc X32 N30 g_b12
  refine Dn.by (U' := T32.setTop (mkF m 80 #[.val (.int p0), .val (.int p1), .val (.int p2), .val (.ref b1), .unset, .unset, .unset, .unset, .unset] [(.ref b12)])) st32 ?_
  refine Dn.by (U' := T32.setTop (mkF m 81 #[.val (.int p0), .val (.int p1), .val (.int p2), .val (.ref b1), .unset, .unset, .unset, .unset, .unset] [(.ref b12), (.ref b12)])) (fun _ k => XS.dup X32.here hx rfl (hb hby at_80) rfl rfl k) ?_
  refine Dn.by (U' := T32.setTop (mkF m 83 #[.val (.int p0), .val (.int p1), .val (.int p2), .val (.ref b1), .unset, .unset, .unset, .unset, .unset] [(.int (10 : Int32)), (.ref b12), (.ref b12)])) (fun _ k => XS.bipush X32.here hx rfl (hb hby at_81)  k) ?_
  refine Dn.by (U' := T32.setTop (mkF m 85 #[.val (.int p0), .val (.int p1), .val (.int p2), .val (.ref b1), .unset, .unset, .unset, .unset, .unset] [(.int (-2147483648 : Int32)), (.int (10 : Int32)), (.ref b12), (.ref b12)])) (X32.ldcInt hx hown (mvT hZ (hw _ (List.mem_of_getElem? (i := 17) rfl))) (g := (mkF m 83 #[.val (.int p0), .val (.int p1), .val (.int p2), .val (.ref b1), .unset, .unset, .unset, .unset, .unset] [(.int (10 : Int32)), (.ref b12), (.ref b12)])) rfl (hb hby at_83)) ?_
  obtain ⟨cl34, Ar34, q34, S34, M34, H34, G34⟩ := V32b
  obtain ⟨T34, h34, X34, e34, W34, st34⟩ := stI X32 hx hZ e32 Ar34 (j := (10 : Int32)) (inb_of S34 ⟨by decide, by decide⟩) (g := (mkF m 85 #[.val (.int p0), .val (.int p1), .val (.int p2), .val (.ref b1), .unset, .unset, .unset, .unset, .unset] [(.int (-2147483648 : Int32)), (.int (10 : Int32)), (.ref b12), (.ref b12)])) rfl rfl (hb hby at_85)
  have V34 := Arv.set Ar34 q34 S34 M34 H34 G34 rfl W34 10 rfl (Nat.le_of_ble_eq_true rfl)
  have K35 : Keep h0 h34 [] := (K33.wr W34 (Or.inr sz_b12))
  have z35 : n0 ≤ h34.size := (Nat.le_trans z33 (Keep.of_wr W34).1)
  have O35 : Old Z n0 h34 := O33.wr W34 g_b12
  have V34b : Arv Z h34 b12 k12 .int (11 : Int32) [(.int (0 : Int32)), (.int (10 : Int32)), (.int (13 : Int32)), (.int (32 : Int32)), (.int (55296 : Int32)), (.int (57344 : Int32)), (.int (65534 : Int32)), (.int (65536 : Int32)), (.int (1114112 : Int32)), (.int (2147483647 : Int32)), (.int (-2147483648 : Int32))] (.int (0 : Int32)) := V34
  have N34 := Fr.snoc X34 N32 g_b12
  refine Dn.by (U' := T34.setTop (mkF m 86 #[.val (.int p0), .val (.int p1), .val (.int p2), .val (.ref b1), .unset, .unset, .unset, .unset, .unset] [(.ref b12)])) st34 ?_
  refine Dn.by (U' := T34.setTop (mkF m 88 #[.val (.int p0), .val (.int p1), .val (.int p2), .val (.ref b1), .val (.ref b12), .unset, .unset, .unset, .unset] [])) (fun _ k => XS.astore X34.here hx rfl (hb hby at_86) rfl rfl (l' := #[.val (.int p0), .val (.int p1), .val (.int p2), .val (.ref b1), .val (.ref b12), .unset, .unset, .unset, .unset]) rfl k) ?_
  refine Dn.by (U' := T34.setTop (mkF m 89 #[.val (.int p0), .val (.int p1), .val (.int p2), .val (.ref b1), .val (.ref b12), .unset, .unset, .unset, .unset] [(.int p0)])) (fun _ k => XS.iloadN X34.here hx rfl (hb hby at_88) rfl k) ?_
  refine Dn.by (U' := T34.setTop (mkF m 91 #[.val (.int p0), .val (.int p1), .val (.int p2), .val (.ref b1), .val (.ref b12), .unset, .unset, .unset, .unset] [(.int (2147483647 : Int32)), (.int p0)])) (X34.ldcInt hx hown (mvT hZ (hw _ (List.mem_of_getElem? (i := 16) rfl))) (g := (mkF m 89 #[.val (.int p0), .val (.int p1), .val (.int p2), .val (.ref b1), .val (.ref b12), .unset, .unset, .unset, .unset] [(.int p0)])) rfl (hb hby at_89)) ?_
  refine Dn.by (U' := T34.setTop (mkF m 92 #[.val (.int p0), .val (.int p1), .val (.int p2), .val (.ref b1), .val (.ref b12), .unset, .unset, .unset, .unset] [(.int (p0 &&& (2147483647 : Int32)))])) (fun _ k => XS.iand X34.here hx rfl (hb hby at_91) rfl k) ?_
  refine Dn.by (U' := T34.setTop (mkF m 93 #[.val (.int p0), .val (.int p1), .val (.int p2), .val (.ref b1), .val (.ref b12), .unset, .unset, .unset, .unset] [(.int (3 : Int32)), (.int (p0 &&& (2147483647 : Int32)))])) (fun _ k => XS.iconst X34.here hx rfl (hb hby at_92)  k) ?_
  refine Dn.by (U' := T34.setTop (mkF m 94 #[.val (.int p0), .val (.int p1), .val (.int p2), .val (.ref b1), .val (.ref b12), .unset, .unset, .unset, .unset] [(.int ((p0 &&& (2147483647 : Int32)) % (3 : Int32)))])) (fun _ k => iremM X34 hx rfl (hb hby at_93) rfl (by decide) k) ?_
  generalize h_kd : ((p0 &&& (2147483647 : Int32)) % (3 : Int32)) = kd
  have hkd : kd = 0 ∨ kd = 1 ∨ kd = 2 := by rw [← h_kd]; exact own_k _
  refine Dn.by (U' := T34.setTop (mkF m 96 #[.val (.int p0), .val (.int p1), .val (.int p2), .val (.ref b1), .val (.ref b12), .val (.int kd), .unset, .unset, .unset] [])) (fun _ k => XS.istore X34.here hx rfl (hb hby at_94) rfl (l' := #[.val (.int p0), .val (.int p1), .val (.int p2), .val (.ref b1), .val (.ref b12), .val (.int kd), .unset, .unset, .unset]) rfl k) ?_
  refine Dn.by (U' := T34.setTop (mkF m 97 #[.val (.int p0), .val (.int p1), .val (.int p2), .val (.ref b1), .val (.ref b12), .val (.int kd), .unset, .unset, .unset] [(.int p1)])) (fun _ k => XS.iloadN X34.here hx rfl (hb hby at_96) rfl k) ?_
  refine Dn.by (U' := T34.setTop (mkF m 98 #[.val (.int p0), .val (.int p1), .val (.int p2), .val (.ref b1), .val (.ref b12), .val (.int kd), .unset, .unset, .unset] [(.int (3 : Int32)), (.int p1)])) (fun _ k => XS.iconst X34.here hx rfl (hb hby at_97)  k) ?_
  refine Dn.by (U' := T34.setTop (mkF m 99 #[.val (.int p0), .val (.int p1), .val (.int p2), .val (.ref b1), .val (.ref b12), .val (.int kd), .unset, .unset, .unset] [(.int (p1 &&& (3 : Int32)))])) (fun _ k => XS.iand X34.here hx rfl (hb hby at_98) rfl k) ?_
  refine Dn.by (U' := T34.setTop (mkF m 101 #[.val (.int p0), .val (.int p1), .val (.int p2), .val (.ref b1), .val (.ref b12), .val (.int kd), .val (.int (p1 &&& (3 : Int32))), .unset, .unset] [])) (fun _ k => XS.istore X34.here hx rfl (hb hby at_99) rfl (l' := #[.val (.int p0), .val (.int p1), .val (.int p2), .val (.ref b1), .val (.ref b12), .val (.int kd), .val (.int (p1 &&& (3 : Int32))), .unset, .unset]) rfl k) ?_
  refine Dn.by (U' := T34.setTop (mkF m 103 #[.val (.int p0), .val (.int p1), .val (.int p2), .val (.ref b1), .val (.ref b12), .val (.int kd), .val (.int (p1 &&& (3 : Int32))), .unset, .unset] [(.int (p1 &&& (3 : Int32)))])) (fun _ k => XS.iload X34.here hx rfl (hb hby at_101) rfl k) ?_
  by_cases c103_36 : (p1 &&& (3 : Int32)) = (0 : Int32)
  ·
    refine Dn.by (U' := T34.setTop (mkF m 106 #[.val (.int p0), .val (.int p1), .val (.int p2), .val (.ref b1), .val (.ref b12), .val (.int kd), .val (.int (p1 &&& (3 : Int32))), .unset, .unset] [])) (fun _ k => XS.ifNo X34.here hx rfl (hb hby at_103) rfl ((if0 _ _).trans (teq c103_36).2) k) ?_
    refine Dn.by (U' := T34.setTop (mkF m 107 #[.val (.int p0), .val (.int p1), .val (.int p2), .val (.ref b1), .val (.ref b12), .val (.int kd), .val (.int (p1 &&& (3 : Int32))), .unset, .unset] [(.int p2)])) (fun _ k => XS.iloadN X34.here hx rfl (hb hby at_106) rfl k) ?_
    refine Dn.by (U' := T34.setTop (mkF m 109 #[.val (.int p0), .val (.int p1), .val (.int p2), .val (.ref b1), .val (.ref b12), .val (.int kd), .val (.int (p1 &&& (3 : Int32))), .val (.int p2), .unset] [])) (fun _ k => XS.istore X34.here hx rfl (hb hby at_107) rfl (l' := #[.val (.int p0), .val (.int p1), .val (.int p2), .val (.ref b1), .val (.ref b12), .val (.int kd), .val (.int (p1 &&& (3 : Int32))), .val (.int p2), .unset]) rfl k) ?_
    refine Dn.by (U' := T34.setTop (mkF m 150 #[.val (.int p0), .val (.int p1), .val (.int p2), .val (.ref b1), .val (.ref b12), .val (.int kd), .val (.int (p1 &&& (3 : Int32))), .val (.int p2), .unset] [])) (fun _ k => XS.goto X34.here hx rfl (pc0 := 109) (pc' := 150) rfl (hb hby at_109) (by decide) (by decide) k) ?_
    rcases hkd with rfl | rfl | rfl
    ·
      refine Dn.by (U' := T34.setTop (mkF m 151 #[.val (.int p0), .val (.int p1), .val (.int p2), .val (.ref b1), .val (.ref b12), .val (.int (0 : Int32)), .val (.int (p1 &&& (3 : Int32))), .val (.int p2), .unset] [(.ref b1)])) (fun _ k => XS.aloadN X34.here hx rfl (hb hby at_150) rfl rfl k) ?_
      refine Dn.by (U' := T34.setTop (mkF m 153 #[.val (.int p0), .val (.int p1), .val (.int p2), .val (.ref b1), .val (.ref b12), .val (.int (0 : Int32)), .val (.int (p1 &&& (3 : Int32))), .val (.int p2), .unset] [(.int (0 : Int32)), (.ref b1)])) (fun _ k => XS.iload X34.here hx rfl (hb hby at_151) rfl k) ?_
      obtain ⟨cl37, Ar37, q37, S37, M37, H37, G37⟩ := ((((((((((((V10b.ext E12).other W14 ne_b1_b12).other W16 ne_b1_b12).other W18 ne_b1_b12).other W20 ne_b1_b12).other W22 ne_b1_b12).other W24 ne_b1_b12).other W26 ne_b1_b12).other W28 ne_b1_b12).other W30 ne_b1_b12).other W32 ne_b1_b12).other W34 ne_b1_b12)
      have in37 := inb_of (j := (0 : Int32)) S37 ⟨by decide, by decide⟩
      have at37 : cl37.slots[(0 : Int32).toNatClampNeg]? = some (.ref s10) := H37.at in37 rfl
      refine Dn.by (U' := T34.setTop (mkF m 154 #[.val (.int p0), .val (.int p1), .val (.int p2), .val (.ref b1), .val (.ref b12), .val (.int (0 : Int32)), .val (.int (p1 &&& (3 : Int32))), .val (.int p2), .unset] [(.ref s10)])) (X34.aaload hx (j := (0 : Int32)) (v := (.ref s10)) (by rw [e34]; exact Ar37.1) (State.isArrayOf_alike hZ.alike Ar37.2.1) rfl Ar37.2.2 in37 at37 (g := (mkF m 153 #[.val (.int p0), .val (.int p1), .val (.int p2), .val (.ref b1), .val (.ref b12), .val (.int (0 : Int32)), .val (.int (p1 &&& (3 : Int32))), .val (.int p2), .unset] [(.int (0 : Int32)), (.ref b1)])) rfl rfl (hb hby at_153)) ?_
      refine Dn.by (U' := T34.setTop (mkF m 156 #[.val (.int p0), .val (.int p1), .val (.int p2), .val (.ref b1), .val (.ref b12), .val (.int (0 : Int32)), .val (.int (p1 &&& (3 : Int32))), .val (.int p2), .unset] [(.int p2), (.ref s10)])) (fun _ k => XS.iload X34.here hx rfl (hb hby at_154) rfl k) ?_
      obtain ⟨cq38, kq38, qa38, qb38, qc38⟩ := isOf hZ e34 ((((((((((((((((E_s10.ext E1).wr W4).wr W7).wr W10).ext E12).wr W14).wr W16).wr W18).wr W20).wr W22).wr W24).wr W26).wr W28).wr W30).wr W32).wr W34)
      obtain ⟨_, _, ⟨T38, L38, k38, n38⟩, -, X38, ⟨Lc38, hQ38, l38, y38, z38⟩, st38⟩ := X34.virtualBack hx (y := (⟨"com/example/osprey/osprey/transform/Repertoire", "holds", "(I)Z"⟩ : MethodName)) (z := (⟨"com/example/osprey/osprey/transform/Repertoire", "holds", "(I)Z"⟩ : MethodName)) hown (mvT hZ (hw _ (List.mem_of_getElem? (i := 18) rfl))) (mvT hZ (hw _ (List.mem_of_getElem? (i := 19) rfl))) (notFace_of_selects (args := #[]) (mvT hZ (hw _ (List.mem_of_getElem? (i := 21) rfl)))) (mvT hZ (hw _ (List.mem_of_getElem? (i := 21) rfl))) (mvT hZ (hw _ (List.mem_of_getElem? (i := 20) rfl))) (by decide) (backOf (W := 0) (rm1 l Z a0 hw [] s10 p2 sh s11 h34 n0 z35 (S_sh.ext O35.2) (S_s11.ext O35.2)) hZ (hw _ (List.mem_of_getElem? (i := 22) rfl)) (hw _ (List.mem_of_getElem? (i := 3) rfl)) (by decide) (by decide)) qa38 qc38 (g := (mkF m 156 #[.val (.int p0), .val (.int p1), .val (.int p2), .val (.ref b1), .val (.ref b12), .val (.int (0 : Int32)), .val (.int (p1 &&& (3 : Int32))), .val (.int p2), .unset] [(.int p2), (.ref s10)])) rfl (by rw [hml]; rfl) (Steps.refl _) (argsL := [(.int p2)]) (rest := []) (lenOf pd0 rfl) rfl (by show 2 * 0 + _ ≤ _; exact Nat.le_of_eq rfl) (hb hby at_156) (fun _ _ => ⟨rfl, e34, (by decide : 2 + 0 ≤ _), (by decide : 14 + 0 ≤ _)⟩)
      dsimp only [Pt.U, Pt.locs, Pt.cells, Pt.slots] at X38 l38 y38 z38 st38 hQ38
      subst l38 y38 z38
      obtain ⟨rfl, N38q, e38⟩ := hQ38
      have N38 := Fr.app N34 N38q
      refine Dn.by (U' := T38.setTop (mkF m 159 #[.val (.int p0), .val (.int p1), .val (.int p2), .val (.ref b1), .val (.ref b12), .val (.int (0 : Int32)), .val (.int (p1 &&& (3 : Int32))), .val (.int p2), .unset] [(.int (hold s10 p2 sh s11))])) (fun _ k => st38.trans k) ?_
      refine Dn.by (U' := T38.setTop (mkF m 161 #[.val (.int p0), .val (.int p1), .val (.int p2), .val (.ref b1), .val (.ref b12), .val (.int (0 : Int32)), .val (.int (p1 &&& (3 : Int32))), .val (.int p2), .val (.int (hold s10 p2 sh s11))] [])) (fun _ k => XS.istore X38.here hx rfl (hb hby at_159) rfl (l' := #[.val (.int p0), .val (.int p1), .val (.int p2), .val (.ref b1), .val (.ref b12), .val (.int (0 : Int32)), .val (.int (p1 &&& (3 : Int32))), .val (.int p2), .val (.int (hold s10 p2 sh s11))]) rfl k) ?_
      refine Dn.by (U' := T38.setTop (mkF m 163 #[.val (.int p0), .val (.int p1), .val (.int p2), .val (.ref b1), .val (.ref b12), .val (.int (0 : Int32)), .val (.int (p1 &&& (3 : Int32))), .val (.int p2), .val (.int (hold s10 p2 sh s11))] [(.int (hold s10 p2 sh s11))])) (fun _ k => XS.iload X38.here hx rfl (hb hby at_161) rfl k) ?_
      refine Dn.by (U' := T38.setTop (mkF m 165 #[.val (.int p0), .val (.int p1), .val (.int p2), .val (.ref b1), .val (.ref b12), .val (.int (0 : Int32)), .val (.int (p1 &&& (3 : Int32))), .val (.int p2), .val (.int (hold s10 p2 sh s11))] [(.int (0 : Int32)), (.int (hold s10 p2 sh s11))])) (fun _ k => XS.iload X38.here hx rfl (hb hby at_163) rfl k) ?_
      refine Dn.by (U' := T38.setTop (mkF m 167 #[.val (.int p0), .val (.int p1), .val (.int p2), .val (.ref b1), .val (.ref b12), .val (.int (0 : Int32)), .val (.int (p1 &&& (3 : Int32))), .val (.int p2), .val (.int (hold s10 p2 sh s11))] [(.int p2), (.int (0 : Int32)), (.int (hold s10 p2 sh s11))])) (fun _ k => XS.iload X38.here hx rfl (hb hby at_165) rfl k) ?_
      obtain ⟨_, _, ⟨T39, L39, k39, n39⟩, -, X39, ⟨Lc39, hQ39, l39, y39, z39⟩, st39⟩ := Jvm.LawKit.callS X38 hx (y := (⟨"com/example/osprey/osprey/transform/RepertoireHoldsPinLaw", "expected", "(II)Z"⟩ : MethodName)) hown (mvT hZ (hw _ (List.mem_of_getElem? (i := 27) rfl))) (mvT hZ (hw _ (List.mem_of_getElem? (i := 28) rfl))) (mvT hZ (hw _ (List.mem_of_getElem? (i := 29) rfl))) (mvT hZ (hw _ (List.mem_of_getElem? (i := 30) rfl))) (by decide) (backOf (W := 1) (rm2 l Z a0 hw [] (0 : Int32) p2  h34 n0 z35 ) hZ (hw _ (List.mem_of_getElem? (i := 30) rfl)) (hw _ (List.mem_of_getElem? (i := 29) rfl)) (by decide) (by decide)) (g := (mkF m 167 #[.val (.int p0), .val (.int p1), .val (.int p2), .val (.ref b1), .val (.ref b12), .val (.int (0 : Int32)), .val (.int (p1 &&& (3 : Int32))), .val (.int p2), .val (.int (hold s10 p2 sh s11))] [(.int p2), (.int (0 : Int32)), (.int (hold s10 p2 sh s11))])) rfl (by rw [hml]; rfl) (argsL := [(.int (0 : Int32)), (.int p2)]) (rest := [(.int (hold s10 p2 sh s11))]) (lenOf pd1 rfl) rfl (by show 2 * 0 + _ ≤ _; exact Nat.le_of_eq rfl) (hb hby at_167) (fun _ _ => ⟨rfl, e38, (by decide : 2 + 0 ≤ _), (by decide : 14 + 0 ≤ _)⟩)
      dsimp only [Pt.U, Pt.locs, Pt.cells, Pt.slots] at X39 l39 y39 z39 st39 hQ39
      subst l39 y39 z39
      obtain ⟨rfl, N39q, e39⟩ := hQ39
      have N39 := Fr.app N38 N39q
      refine Dn.by (U' := T39.setTop (mkF m 170 #[.val (.int p0), .val (.int p1), .val (.int p2), .val (.ref b1), .val (.ref b12), .val (.int (0 : Int32)), .val (.int (p1 &&& (3 : Int32))), .val (.int p2), .val (.int (hold s10 p2 sh s11))] [(.int (expd (0 : Int32) p2)), (.int (hold s10 p2 sh s11))])) st39 ?_
      refine Dn.by (U' := T39.setTop (mkF m 173 #[.val (.int p0), .val (.int p1), .val (.int p2), .val (.ref b1), .val (.ref b12), .val (.int (0 : Int32)), .val (.int (p1 &&& (3 : Int32))), .val (.int p2), .val (.int (hold s10 p2 sh s11))] [])) (fun _ k => XS.icmpNo X39.here hx rfl (hb hby at_170) rfl (teq (own_h0 _ _ _ _ ne0h ne01)).2 k) ?_
      refine Dn.by (U' := T39.setTop (mkF m 174 #[.val (.int p0), .val (.int p1), .val (.int p2), .val (.ref b1), .val (.ref b12), .val (.int (0 : Int32)), .val (.int (p1 &&& (3 : Int32))), .val (.int p2), .val (.int (hold s10 p2 sh s11))] [(.int (1 : Int32))])) (fun _ k => XS.iconst X39.here hx rfl (hb hby at_173)  k) ?_
      refine Dn.by (U' := T39.setTop (mkF m 178 #[.val (.int p0), .val (.int p1), .val (.int p2), .val (.ref b1), .val (.ref b12), .val (.int (0 : Int32)), .val (.int (p1 &&& (3 : Int32))), .val (.int p2), .val (.int (hold s10 p2 sh s11))] [(.int (1 : Int32))])) (fun _ k => XS.goto X39.here hx rfl (pc0 := 174) (pc' := 178) rfl (hb hby at_174) (by decide) (by decide) k) ?_
      refine Dn.out X39 (v := (some (.int (1 : Int32)))) (fun h => by rw [Bd.returns] at h; cases h) (BodyLoose.notSynchronized Bd) (fun _ hr => retN X39 hx (t := .boolean) Bd.returns (by simp) (hb hby at_178) hr) (by decide) (by decide) ?_
      rw [e39]
      exact ⟨rfl, N39⟩
    ·
      refine Dn.by (U' := T34.setTop (mkF m 151 #[.val (.int p0), .val (.int p1), .val (.int p2), .val (.ref b1), .val (.ref b12), .val (.int (1 : Int32)), .val (.int (p1 &&& (3 : Int32))), .val (.int p2), .unset] [(.ref b1)])) (fun _ k => XS.aloadN X34.here hx rfl (hb hby at_150) rfl rfl k) ?_
      refine Dn.by (U' := T34.setTop (mkF m 153 #[.val (.int p0), .val (.int p1), .val (.int p2), .val (.ref b1), .val (.ref b12), .val (.int (1 : Int32)), .val (.int (p1 &&& (3 : Int32))), .val (.int p2), .unset] [(.int (1 : Int32)), (.ref b1)])) (fun _ k => XS.iload X34.here hx rfl (hb hby at_151) rfl k) ?_
      obtain ⟨cl40, Ar40, q40, S40, M40, H40, G40⟩ := ((((((((((((V10b.ext E12).other W14 ne_b1_b12).other W16 ne_b1_b12).other W18 ne_b1_b12).other W20 ne_b1_b12).other W22 ne_b1_b12).other W24 ne_b1_b12).other W26 ne_b1_b12).other W28 ne_b1_b12).other W30 ne_b1_b12).other W32 ne_b1_b12).other W34 ne_b1_b12)
      have in40 := inb_of (j := (1 : Int32)) S40 ⟨by decide, by decide⟩
      have at40 : cl40.slots[(1 : Int32).toNatClampNeg]? = some (.ref s11) := H40.at in40 rfl
      refine Dn.by (U' := T34.setTop (mkF m 154 #[.val (.int p0), .val (.int p1), .val (.int p2), .val (.ref b1), .val (.ref b12), .val (.int (1 : Int32)), .val (.int (p1 &&& (3 : Int32))), .val (.int p2), .unset] [(.ref s11)])) (X34.aaload hx (j := (1 : Int32)) (v := (.ref s11)) (by rw [e34]; exact Ar40.1) (State.isArrayOf_alike hZ.alike Ar40.2.1) rfl Ar40.2.2 in40 at40 (g := (mkF m 153 #[.val (.int p0), .val (.int p1), .val (.int p2), .val (.ref b1), .val (.ref b12), .val (.int (1 : Int32)), .val (.int (p1 &&& (3 : Int32))), .val (.int p2), .unset] [(.int (1 : Int32)), (.ref b1)])) rfl rfl (hb hby at_153)) ?_
      refine Dn.by (U' := T34.setTop (mkF m 156 #[.val (.int p0), .val (.int p1), .val (.int p2), .val (.ref b1), .val (.ref b12), .val (.int (1 : Int32)), .val (.int (p1 &&& (3 : Int32))), .val (.int p2), .unset] [(.int p2), (.ref s11)])) (fun _ k => XS.iload X34.here hx rfl (hb hby at_154) rfl k) ?_
      obtain ⟨cq41, kq41, qa41, qb41, qc41⟩ := isOf hZ e34 ((((((((((((((((E_s11.ext E1).wr W4).wr W7).wr W10).ext E12).wr W14).wr W16).wr W18).wr W20).wr W22).wr W24).wr W26).wr W28).wr W30).wr W32).wr W34)
      obtain ⟨_, _, ⟨T41, L41, k41, n41⟩, -, X41, ⟨Lc41, hQ41, l41, y41, z41⟩, st41⟩ := X34.virtualBack hx (y := (⟨"com/example/osprey/osprey/transform/Repertoire", "holds", "(I)Z"⟩ : MethodName)) (z := (⟨"com/example/osprey/osprey/transform/Repertoire", "holds", "(I)Z"⟩ : MethodName)) hown (mvT hZ (hw _ (List.mem_of_getElem? (i := 18) rfl))) (mvT hZ (hw _ (List.mem_of_getElem? (i := 19) rfl))) (notFace_of_selects (args := #[]) (mvT hZ (hw _ (List.mem_of_getElem? (i := 21) rfl)))) (mvT hZ (hw _ (List.mem_of_getElem? (i := 21) rfl))) (mvT hZ (hw _ (List.mem_of_getElem? (i := 20) rfl))) (by decide) (backOf (W := 0) (rm1 l Z a0 hw [] s11 p2 sh s11 h34 n0 z35 (S_sh.ext O35.2) (S_s11.ext O35.2)) hZ (hw _ (List.mem_of_getElem? (i := 22) rfl)) (hw _ (List.mem_of_getElem? (i := 3) rfl)) (by decide) (by decide)) qa41 qc41 (g := (mkF m 156 #[.val (.int p0), .val (.int p1), .val (.int p2), .val (.ref b1), .val (.ref b12), .val (.int (1 : Int32)), .val (.int (p1 &&& (3 : Int32))), .val (.int p2), .unset] [(.int p2), (.ref s11)])) rfl (by rw [hml]; rfl) (Steps.refl _) (argsL := [(.int p2)]) (rest := []) (lenOf pd0 rfl) rfl (by show 2 * 0 + _ ≤ _; exact Nat.le_of_eq rfl) (hb hby at_156) (fun _ _ => ⟨rfl, e34, (by decide : 2 + 0 ≤ _), (by decide : 14 + 0 ≤ _)⟩)
      dsimp only [Pt.U, Pt.locs, Pt.cells, Pt.slots] at X41 l41 y41 z41 st41 hQ41
      subst l41 y41 z41
      obtain ⟨rfl, N41q, e41⟩ := hQ41
      have N41 := Fr.app N34 N41q
      refine Dn.by (U' := T41.setTop (mkF m 159 #[.val (.int p0), .val (.int p1), .val (.int p2), .val (.ref b1), .val (.ref b12), .val (.int (1 : Int32)), .val (.int (p1 &&& (3 : Int32))), .val (.int p2), .unset] [(.int (hold s11 p2 sh s11))])) (fun _ k => st41.trans k) ?_
      refine Dn.by (U' := T41.setTop (mkF m 161 #[.val (.int p0), .val (.int p1), .val (.int p2), .val (.ref b1), .val (.ref b12), .val (.int (1 : Int32)), .val (.int (p1 &&& (3 : Int32))), .val (.int p2), .val (.int (hold s11 p2 sh s11))] [])) (fun _ k => XS.istore X41.here hx rfl (hb hby at_159) rfl (l' := #[.val (.int p0), .val (.int p1), .val (.int p2), .val (.ref b1), .val (.ref b12), .val (.int (1 : Int32)), .val (.int (p1 &&& (3 : Int32))), .val (.int p2), .val (.int (hold s11 p2 sh s11))]) rfl k) ?_
      refine Dn.by (U' := T41.setTop (mkF m 163 #[.val (.int p0), .val (.int p1), .val (.int p2), .val (.ref b1), .val (.ref b12), .val (.int (1 : Int32)), .val (.int (p1 &&& (3 : Int32))), .val (.int p2), .val (.int (hold s11 p2 sh s11))] [(.int (hold s11 p2 sh s11))])) (fun _ k => XS.iload X41.here hx rfl (hb hby at_161) rfl k) ?_
      refine Dn.by (U' := T41.setTop (mkF m 165 #[.val (.int p0), .val (.int p1), .val (.int p2), .val (.ref b1), .val (.ref b12), .val (.int (1 : Int32)), .val (.int (p1 &&& (3 : Int32))), .val (.int p2), .val (.int (hold s11 p2 sh s11))] [(.int (1 : Int32)), (.int (hold s11 p2 sh s11))])) (fun _ k => XS.iload X41.here hx rfl (hb hby at_163) rfl k) ?_
      refine Dn.by (U' := T41.setTop (mkF m 167 #[.val (.int p0), .val (.int p1), .val (.int p2), .val (.ref b1), .val (.ref b12), .val (.int (1 : Int32)), .val (.int (p1 &&& (3 : Int32))), .val (.int p2), .val (.int (hold s11 p2 sh s11))] [(.int p2), (.int (1 : Int32)), (.int (hold s11 p2 sh s11))])) (fun _ k => XS.iload X41.here hx rfl (hb hby at_165) rfl k) ?_
      obtain ⟨_, _, ⟨T42, L42, k42, n42⟩, -, X42, ⟨Lc42, hQ42, l42, y42, z42⟩, st42⟩ := Jvm.LawKit.callS X41 hx (y := (⟨"com/example/osprey/osprey/transform/RepertoireHoldsPinLaw", "expected", "(II)Z"⟩ : MethodName)) hown (mvT hZ (hw _ (List.mem_of_getElem? (i := 27) rfl))) (mvT hZ (hw _ (List.mem_of_getElem? (i := 28) rfl))) (mvT hZ (hw _ (List.mem_of_getElem? (i := 29) rfl))) (mvT hZ (hw _ (List.mem_of_getElem? (i := 30) rfl))) (by decide) (backOf (W := 1) (rm2 l Z a0 hw [] (1 : Int32) p2  h34 n0 z35 ) hZ (hw _ (List.mem_of_getElem? (i := 30) rfl)) (hw _ (List.mem_of_getElem? (i := 29) rfl)) (by decide) (by decide)) (g := (mkF m 167 #[.val (.int p0), .val (.int p1), .val (.int p2), .val (.ref b1), .val (.ref b12), .val (.int (1 : Int32)), .val (.int (p1 &&& (3 : Int32))), .val (.int p2), .val (.int (hold s11 p2 sh s11))] [(.int p2), (.int (1 : Int32)), (.int (hold s11 p2 sh s11))])) rfl (by rw [hml]; rfl) (argsL := [(.int (1 : Int32)), (.int p2)]) (rest := [(.int (hold s11 p2 sh s11))]) (lenOf pd1 rfl) rfl (by show 2 * 0 + _ ≤ _; exact Nat.le_of_eq rfl) (hb hby at_167) (fun _ _ => ⟨rfl, e41, (by decide : 2 + 0 ≤ _), (by decide : 14 + 0 ≤ _)⟩)
      dsimp only [Pt.U, Pt.locs, Pt.cells, Pt.slots] at X42 l42 y42 z42 st42 hQ42
      subst l42 y42 z42
      obtain ⟨rfl, N42q, e42⟩ := hQ42
      have N42 := Fr.app N41 N42q
      refine Dn.by (U' := T42.setTop (mkF m 170 #[.val (.int p0), .val (.int p1), .val (.int p2), .val (.ref b1), .val (.ref b12), .val (.int (1 : Int32)), .val (.int (p1 &&& (3 : Int32))), .val (.int p2), .val (.int (hold s11 p2 sh s11))] [(.int (expd (1 : Int32) p2)), (.int (hold s11 p2 sh s11))])) st42 ?_
      refine Dn.by (U' := T42.setTop (mkF m 173 #[.val (.int p0), .val (.int p1), .val (.int p2), .val (.ref b1), .val (.ref b12), .val (.int (1 : Int32)), .val (.int (p1 &&& (3 : Int32))), .val (.int p2), .val (.int (hold s11 p2 sh s11))] [])) (fun _ k => XS.icmpNo X42.here hx rfl (hb hby at_170) rfl (teq (own_h1 _ _ _ ne1h)).2 k) ?_
      refine Dn.by (U' := T42.setTop (mkF m 174 #[.val (.int p0), .val (.int p1), .val (.int p2), .val (.ref b1), .val (.ref b12), .val (.int (1 : Int32)), .val (.int (p1 &&& (3 : Int32))), .val (.int p2), .val (.int (hold s11 p2 sh s11))] [(.int (1 : Int32))])) (fun _ k => XS.iconst X42.here hx rfl (hb hby at_173)  k) ?_
      refine Dn.by (U' := T42.setTop (mkF m 178 #[.val (.int p0), .val (.int p1), .val (.int p2), .val (.ref b1), .val (.ref b12), .val (.int (1 : Int32)), .val (.int (p1 &&& (3 : Int32))), .val (.int p2), .val (.int (hold s11 p2 sh s11))] [(.int (1 : Int32))])) (fun _ k => XS.goto X42.here hx rfl (pc0 := 174) (pc' := 178) rfl (hb hby at_174) (by decide) (by decide) k) ?_
      refine Dn.out X42 (v := (some (.int (1 : Int32)))) (fun h => by rw [Bd.returns] at h; cases h) (BodyLoose.notSynchronized Bd) (fun _ hr => retN X42 hx (t := .boolean) Bd.returns (by simp) (hb hby at_178) hr) (by decide) (by decide) ?_
      rw [e42]
      exact ⟨rfl, N42⟩
    ·
      refine Dn.by (U' := T34.setTop (mkF m 151 #[.val (.int p0), .val (.int p1), .val (.int p2), .val (.ref b1), .val (.ref b12), .val (.int (2 : Int32)), .val (.int (p1 &&& (3 : Int32))), .val (.int p2), .unset] [(.ref b1)])) (fun _ k => XS.aloadN X34.here hx rfl (hb hby at_150) rfl rfl k) ?_
      refine Dn.by (U' := T34.setTop (mkF m 153 #[.val (.int p0), .val (.int p1), .val (.int p2), .val (.ref b1), .val (.ref b12), .val (.int (2 : Int32)), .val (.int (p1 &&& (3 : Int32))), .val (.int p2), .unset] [(.int (2 : Int32)), (.ref b1)])) (fun _ k => XS.iload X34.here hx rfl (hb hby at_151) rfl k) ?_
      obtain ⟨cl43, Ar43, q43, S43, M43, H43, G43⟩ := ((((((((((((V10b.ext E12).other W14 ne_b1_b12).other W16 ne_b1_b12).other W18 ne_b1_b12).other W20 ne_b1_b12).other W22 ne_b1_b12).other W24 ne_b1_b12).other W26 ne_b1_b12).other W28 ne_b1_b12).other W30 ne_b1_b12).other W32 ne_b1_b12).other W34 ne_b1_b12)
      have in43 := inb_of (j := (2 : Int32)) S43 ⟨by decide, by decide⟩
      have at43 : cl43.slots[(2 : Int32).toNatClampNeg]? = some (.ref sh) := H43.at in43 rfl
      refine Dn.by (U' := T34.setTop (mkF m 154 #[.val (.int p0), .val (.int p1), .val (.int p2), .val (.ref b1), .val (.ref b12), .val (.int (2 : Int32)), .val (.int (p1 &&& (3 : Int32))), .val (.int p2), .unset] [(.ref sh)])) (X34.aaload hx (j := (2 : Int32)) (v := (.ref sh)) (by rw [e34]; exact Ar43.1) (State.isArrayOf_alike hZ.alike Ar43.2.1) rfl Ar43.2.2 in43 at43 (g := (mkF m 153 #[.val (.int p0), .val (.int p1), .val (.int p2), .val (.ref b1), .val (.ref b12), .val (.int (2 : Int32)), .val (.int (p1 &&& (3 : Int32))), .val (.int p2), .unset] [(.int (2 : Int32)), (.ref b1)])) rfl rfl (hb hby at_153)) ?_
      refine Dn.by (U' := T34.setTop (mkF m 156 #[.val (.int p0), .val (.int p1), .val (.int p2), .val (.ref b1), .val (.ref b12), .val (.int (2 : Int32)), .val (.int (p1 &&& (3 : Int32))), .val (.int p2), .unset] [(.int p2), (.ref sh)])) (fun _ k => XS.iload X34.here hx rfl (hb hby at_154) rfl k) ?_
      obtain ⟨cq44, kq44, qa44, qb44, qc44⟩ := isOf hZ e34 ((((((((((((((((E_sh.ext E1).wr W4).wr W7).wr W10).ext E12).wr W14).wr W16).wr W18).wr W20).wr W22).wr W24).wr W26).wr W28).wr W30).wr W32).wr W34)
      obtain ⟨_, _, ⟨T44, L44, k44, n44⟩, -, X44, ⟨Lc44, hQ44, l44, y44, z44⟩, st44⟩ := X34.virtualBack hx (y := (⟨"com/example/osprey/osprey/transform/Repertoire", "holds", "(I)Z"⟩ : MethodName)) (z := (⟨"com/example/osprey/osprey/transform/Repertoire", "holds", "(I)Z"⟩ : MethodName)) hown (mvT hZ (hw _ (List.mem_of_getElem? (i := 18) rfl))) (mvT hZ (hw _ (List.mem_of_getElem? (i := 19) rfl))) (notFace_of_selects (args := #[]) (mvT hZ (hw _ (List.mem_of_getElem? (i := 21) rfl)))) (mvT hZ (hw _ (List.mem_of_getElem? (i := 21) rfl))) (mvT hZ (hw _ (List.mem_of_getElem? (i := 20) rfl))) (by decide) (backOf (W := 0) (rm1 l Z a0 hw [] sh p2 sh s11 h34 n0 z35 (S_sh.ext O35.2) (S_s11.ext O35.2)) hZ (hw _ (List.mem_of_getElem? (i := 22) rfl)) (hw _ (List.mem_of_getElem? (i := 3) rfl)) (by decide) (by decide)) qa44 qc44 (g := (mkF m 156 #[.val (.int p0), .val (.int p1), .val (.int p2), .val (.ref b1), .val (.ref b12), .val (.int (2 : Int32)), .val (.int (p1 &&& (3 : Int32))), .val (.int p2), .unset] [(.int p2), (.ref sh)])) rfl (by rw [hml]; rfl) (Steps.refl _) (argsL := [(.int p2)]) (rest := []) (lenOf pd0 rfl) rfl (by show 2 * 0 + _ ≤ _; exact Nat.le_of_eq rfl) (hb hby at_156) (fun _ _ => ⟨rfl, e34, (by decide : 2 + 0 ≤ _), (by decide : 14 + 0 ≤ _)⟩)
      dsimp only [Pt.U, Pt.locs, Pt.cells, Pt.slots] at X44 l44 y44 z44 st44 hQ44
      subst l44 y44 z44
      obtain ⟨rfl, N44q, e44⟩ := hQ44
      have N44 := Fr.app N34 N44q
      refine Dn.by (U' := T44.setTop (mkF m 159 #[.val (.int p0), .val (.int p1), .val (.int p2), .val (.ref b1), .val (.ref b12), .val (.int (2 : Int32)), .val (.int (p1 &&& (3 : Int32))), .val (.int p2), .unset] [(.int (hold sh p2 sh s11))])) (fun _ k => st44.trans k) ?_
      refine Dn.by (U' := T44.setTop (mkF m 161 #[.val (.int p0), .val (.int p1), .val (.int p2), .val (.ref b1), .val (.ref b12), .val (.int (2 : Int32)), .val (.int (p1 &&& (3 : Int32))), .val (.int p2), .val (.int (hold sh p2 sh s11))] [])) (fun _ k => XS.istore X44.here hx rfl (hb hby at_159) rfl (l' := #[.val (.int p0), .val (.int p1), .val (.int p2), .val (.ref b1), .val (.ref b12), .val (.int (2 : Int32)), .val (.int (p1 &&& (3 : Int32))), .val (.int p2), .val (.int (hold sh p2 sh s11))]) rfl k) ?_
      refine Dn.by (U' := T44.setTop (mkF m 163 #[.val (.int p0), .val (.int p1), .val (.int p2), .val (.ref b1), .val (.ref b12), .val (.int (2 : Int32)), .val (.int (p1 &&& (3 : Int32))), .val (.int p2), .val (.int (hold sh p2 sh s11))] [(.int (hold sh p2 sh s11))])) (fun _ k => XS.iload X44.here hx rfl (hb hby at_161) rfl k) ?_
      refine Dn.by (U' := T44.setTop (mkF m 165 #[.val (.int p0), .val (.int p1), .val (.int p2), .val (.ref b1), .val (.ref b12), .val (.int (2 : Int32)), .val (.int (p1 &&& (3 : Int32))), .val (.int p2), .val (.int (hold sh p2 sh s11))] [(.int (2 : Int32)), (.int (hold sh p2 sh s11))])) (fun _ k => XS.iload X44.here hx rfl (hb hby at_163) rfl k) ?_
      refine Dn.by (U' := T44.setTop (mkF m 167 #[.val (.int p0), .val (.int p1), .val (.int p2), .val (.ref b1), .val (.ref b12), .val (.int (2 : Int32)), .val (.int (p1 &&& (3 : Int32))), .val (.int p2), .val (.int (hold sh p2 sh s11))] [(.int p2), (.int (2 : Int32)), (.int (hold sh p2 sh s11))])) (fun _ k => XS.iload X44.here hx rfl (hb hby at_165) rfl k) ?_
      obtain ⟨_, _, ⟨T45, L45, k45, n45⟩, -, X45, ⟨Lc45, hQ45, l45, y45, z45⟩, st45⟩ := Jvm.LawKit.callS X44 hx (y := (⟨"com/example/osprey/osprey/transform/RepertoireHoldsPinLaw", "expected", "(II)Z"⟩ : MethodName)) hown (mvT hZ (hw _ (List.mem_of_getElem? (i := 27) rfl))) (mvT hZ (hw _ (List.mem_of_getElem? (i := 28) rfl))) (mvT hZ (hw _ (List.mem_of_getElem? (i := 29) rfl))) (mvT hZ (hw _ (List.mem_of_getElem? (i := 30) rfl))) (by decide) (backOf (W := 1) (rm2 l Z a0 hw [] (2 : Int32) p2  h34 n0 z35 ) hZ (hw _ (List.mem_of_getElem? (i := 30) rfl)) (hw _ (List.mem_of_getElem? (i := 29) rfl)) (by decide) (by decide)) (g := (mkF m 167 #[.val (.int p0), .val (.int p1), .val (.int p2), .val (.ref b1), .val (.ref b12), .val (.int (2 : Int32)), .val (.int (p1 &&& (3 : Int32))), .val (.int p2), .val (.int (hold sh p2 sh s11))] [(.int p2), (.int (2 : Int32)), (.int (hold sh p2 sh s11))])) rfl (by rw [hml]; rfl) (argsL := [(.int (2 : Int32)), (.int p2)]) (rest := [(.int (hold sh p2 sh s11))]) (lenOf pd1 rfl) rfl (by show 2 * 0 + _ ≤ _; exact Nat.le_of_eq rfl) (hb hby at_167) (fun _ _ => ⟨rfl, e44, (by decide : 2 + 0 ≤ _), (by decide : 14 + 0 ≤ _)⟩)
      dsimp only [Pt.U, Pt.locs, Pt.cells, Pt.slots] at X45 l45 y45 z45 st45 hQ45
      subst l45 y45 z45
      obtain ⟨rfl, N45q, e45⟩ := hQ45
      have N45 := Fr.app N44 N45q
      refine Dn.by (U' := T45.setTop (mkF m 170 #[.val (.int p0), .val (.int p1), .val (.int p2), .val (.ref b1), .val (.ref b12), .val (.int (2 : Int32)), .val (.int (p1 &&& (3 : Int32))), .val (.int p2), .val (.int (hold sh p2 sh s11))] [(.int (expd (2 : Int32) p2)), (.int (hold sh p2 sh s11))])) st45 ?_
      refine Dn.by (U' := T45.setTop (mkF m 173 #[.val (.int p0), .val (.int p1), .val (.int p2), .val (.ref b1), .val (.ref b12), .val (.int (2 : Int32)), .val (.int (p1 &&& (3 : Int32))), .val (.int p2), .val (.int (hold sh p2 sh s11))] [])) (fun _ k => XS.icmpNo X45.here hx rfl (hb hby at_170) rfl (teq (own_h2 _ _ _)).2 k) ?_
      refine Dn.by (U' := T45.setTop (mkF m 174 #[.val (.int p0), .val (.int p1), .val (.int p2), .val (.ref b1), .val (.ref b12), .val (.int (2 : Int32)), .val (.int (p1 &&& (3 : Int32))), .val (.int p2), .val (.int (hold sh p2 sh s11))] [(.int (1 : Int32))])) (fun _ k => XS.iconst X45.here hx rfl (hb hby at_173)  k) ?_
      refine Dn.by (U' := T45.setTop (mkF m 178 #[.val (.int p0), .val (.int p1), .val (.int p2), .val (.ref b1), .val (.ref b12), .val (.int (2 : Int32)), .val (.int (p1 &&& (3 : Int32))), .val (.int p2), .val (.int (hold sh p2 sh s11))] [(.int (1 : Int32))])) (fun _ k => XS.goto X45.here hx rfl (pc0 := 174) (pc' := 178) rfl (hb hby at_174) (by decide) (by decide) k) ?_
      refine Dn.out X45 (v := (some (.int (1 : Int32)))) (fun h => by rw [Bd.returns] at h; cases h) (BodyLoose.notSynchronized Bd) (fun _ hr => retN X45 hx (t := .boolean) Bd.returns (by simp) (hb hby at_178) hr) (by decide) (by decide) ?_
      rw [e45]
      exact ⟨rfl, N45⟩
  ·
    refine Dn.by (U' := T34.setTop (mkF m 112 #[.val (.int p0), .val (.int p1), .val (.int p2), .val (.ref b1), .val (.ref b12), .val (.int kd), .val (.int (p1 &&& (3 : Int32))), .unset, .unset] [])) (fun _ k => XS.ifYes X34.here hx rfl (pc0 := 103) (pc' := 112) rfl (hb hby at_103) rfl ((if0 _ _).trans (feq c103_36).2) (by decide) (by decide) k) ?_
    refine Dn.by (U' := T34.setTop (mkF m 114 #[.val (.int p0), .val (.int p1), .val (.int p2), .val (.ref b1), .val (.ref b12), .val (.int kd), .val (.int (p1 &&& (3 : Int32))), .unset, .unset] [(.int (p1 &&& (3 : Int32)))])) (fun _ k => XS.iload X34.here hx rfl (hb hby at_112) rfl k) ?_
    refine Dn.by (U' := T34.setTop (mkF m 115 #[.val (.int p0), .val (.int p1), .val (.int p2), .val (.ref b1), .val (.ref b12), .val (.int kd), .val (.int (p1 &&& (3 : Int32))), .unset, .unset] [(.int (1 : Int32)), (.int (p1 &&& (3 : Int32)))])) (fun _ k => XS.iconst X34.here hx rfl (hb hby at_114)  k) ?_
    by_cases c115_46 : (p1 &&& (3 : Int32)) = (1 : Int32)
    ·
      refine Dn.by (U' := T34.setTop (mkF m 118 #[.val (.int p0), .val (.int p1), .val (.int p2), .val (.ref b1), .val (.ref b12), .val (.int kd), .val (.int (p1 &&& (3 : Int32))), .unset, .unset] [])) (fun _ k => XS.icmpNo X34.here hx rfl (hb hby at_115) rfl (teq c115_46).2 k) ?_
      refine Dn.by (U' := T34.setTop (mkF m 119 #[.val (.int p0), .val (.int p1), .val (.int p2), .val (.ref b1), .val (.ref b12), .val (.int kd), .val (.int (p1 &&& (3 : Int32))), .unset, .unset] [(.int p2)])) (fun _ k => XS.iloadN X34.here hx rfl (hb hby at_118) rfl k) ?_
      refine Dn.by (U' := T34.setTop (mkF m 121 #[.val (.int p0), .val (.int p1), .val (.int p2), .val (.ref b1), .val (.ref b12), .val (.int kd), .val (.int (p1 &&& (3 : Int32))), .unset, .unset] [(.int (2097151 : Int32)), (.int p2)])) (X34.ldcInt hx hown (mvT hZ (hw _ (List.mem_of_getElem? (i := 35) rfl))) (g := (mkF m 119 #[.val (.int p0), .val (.int p1), .val (.int p2), .val (.ref b1), .val (.ref b12), .val (.int kd), .val (.int (p1 &&& (3 : Int32))), .unset, .unset] [(.int p2)])) rfl (hb hby at_119)) ?_
      refine Dn.by (U' := T34.setTop (mkF m 122 #[.val (.int p0), .val (.int p1), .val (.int p2), .val (.ref b1), .val (.ref b12), .val (.int kd), .val (.int (p1 &&& (3 : Int32))), .unset, .unset] [(.int (p2 &&& (2097151 : Int32)))])) (fun _ k => XS.iand X34.here hx rfl (hb hby at_121) rfl k) ?_
      refine Dn.by (U' := T34.setTop (mkF m 124 #[.val (.int p0), .val (.int p1), .val (.int p2), .val (.ref b1), .val (.ref b12), .val (.int kd), .val (.int (p1 &&& (3 : Int32))), .val (.int (p2 &&& (2097151 : Int32))), .unset] [])) (fun _ k => XS.istore X34.here hx rfl (hb hby at_122) rfl (l' := #[.val (.int p0), .val (.int p1), .val (.int p2), .val (.ref b1), .val (.ref b12), .val (.int kd), .val (.int (p1 &&& (3 : Int32))), .val (.int (p2 &&& (2097151 : Int32))), .unset]) rfl k) ?_
      refine Dn.by (U' := T34.setTop (mkF m 150 #[.val (.int p0), .val (.int p1), .val (.int p2), .val (.ref b1), .val (.ref b12), .val (.int kd), .val (.int (p1 &&& (3 : Int32))), .val (.int (p2 &&& (2097151 : Int32))), .unset] [])) (fun _ k => XS.goto X34.here hx rfl (pc0 := 124) (pc' := 150) rfl (hb hby at_124) (by decide) (by decide) k) ?_
      generalize h_c7 : (p2 &&& (2097151 : Int32)) = c7
      rcases hkd with rfl | rfl | rfl
      ·
        refine Dn.by (U' := T34.setTop (mkF m 151 #[.val (.int p0), .val (.int p1), .val (.int p2), .val (.ref b1), .val (.ref b12), .val (.int (0 : Int32)), .val (.int (p1 &&& (3 : Int32))), .val (.int c7), .unset] [(.ref b1)])) (fun _ k => XS.aloadN X34.here hx rfl (hb hby at_150) rfl rfl k) ?_
        refine Dn.by (U' := T34.setTop (mkF m 153 #[.val (.int p0), .val (.int p1), .val (.int p2), .val (.ref b1), .val (.ref b12), .val (.int (0 : Int32)), .val (.int (p1 &&& (3 : Int32))), .val (.int c7), .unset] [(.int (0 : Int32)), (.ref b1)])) (fun _ k => XS.iload X34.here hx rfl (hb hby at_151) rfl k) ?_
        obtain ⟨cl47, Ar47, q47, S47, M47, H47, G47⟩ := ((((((((((((V10b.ext E12).other W14 ne_b1_b12).other W16 ne_b1_b12).other W18 ne_b1_b12).other W20 ne_b1_b12).other W22 ne_b1_b12).other W24 ne_b1_b12).other W26 ne_b1_b12).other W28 ne_b1_b12).other W30 ne_b1_b12).other W32 ne_b1_b12).other W34 ne_b1_b12)
        have in47 := inb_of (j := (0 : Int32)) S47 ⟨by decide, by decide⟩
        have at47 : cl47.slots[(0 : Int32).toNatClampNeg]? = some (.ref s10) := H47.at in47 rfl
        refine Dn.by (U' := T34.setTop (mkF m 154 #[.val (.int p0), .val (.int p1), .val (.int p2), .val (.ref b1), .val (.ref b12), .val (.int (0 : Int32)), .val (.int (p1 &&& (3 : Int32))), .val (.int c7), .unset] [(.ref s10)])) (X34.aaload hx (j := (0 : Int32)) (v := (.ref s10)) (by rw [e34]; exact Ar47.1) (State.isArrayOf_alike hZ.alike Ar47.2.1) rfl Ar47.2.2 in47 at47 (g := (mkF m 153 #[.val (.int p0), .val (.int p1), .val (.int p2), .val (.ref b1), .val (.ref b12), .val (.int (0 : Int32)), .val (.int (p1 &&& (3 : Int32))), .val (.int c7), .unset] [(.int (0 : Int32)), (.ref b1)])) rfl rfl (hb hby at_153)) ?_
        refine Dn.by (U' := T34.setTop (mkF m 156 #[.val (.int p0), .val (.int p1), .val (.int p2), .val (.ref b1), .val (.ref b12), .val (.int (0 : Int32)), .val (.int (p1 &&& (3 : Int32))), .val (.int c7), .unset] [(.int c7), (.ref s10)])) (fun _ k => XS.iload X34.here hx rfl (hb hby at_154) rfl k) ?_
        obtain ⟨cq48, kq48, qa48, qb48, qc48⟩ := isOf hZ e34 ((((((((((((((((E_s10.ext E1).wr W4).wr W7).wr W10).ext E12).wr W14).wr W16).wr W18).wr W20).wr W22).wr W24).wr W26).wr W28).wr W30).wr W32).wr W34)
        obtain ⟨_, _, ⟨T48, L48, k48, n48⟩, -, X48, ⟨Lc48, hQ48, l48, y48, z48⟩, st48⟩ := X34.virtualBack hx (y := (⟨"com/example/osprey/osprey/transform/Repertoire", "holds", "(I)Z"⟩ : MethodName)) (z := (⟨"com/example/osprey/osprey/transform/Repertoire", "holds", "(I)Z"⟩ : MethodName)) hown (mvT hZ (hw _ (List.mem_of_getElem? (i := 18) rfl))) (mvT hZ (hw _ (List.mem_of_getElem? (i := 19) rfl))) (notFace_of_selects (args := #[]) (mvT hZ (hw _ (List.mem_of_getElem? (i := 21) rfl)))) (mvT hZ (hw _ (List.mem_of_getElem? (i := 21) rfl))) (mvT hZ (hw _ (List.mem_of_getElem? (i := 20) rfl))) (by decide) (backOf (W := 0) (rm1 l Z a0 hw [] s10 c7 sh s11 h34 n0 z35 (S_sh.ext O35.2) (S_s11.ext O35.2)) hZ (hw _ (List.mem_of_getElem? (i := 22) rfl)) (hw _ (List.mem_of_getElem? (i := 3) rfl)) (by decide) (by decide)) qa48 qc48 (g := (mkF m 156 #[.val (.int p0), .val (.int p1), .val (.int p2), .val (.ref b1), .val (.ref b12), .val (.int (0 : Int32)), .val (.int (p1 &&& (3 : Int32))), .val (.int c7), .unset] [(.int c7), (.ref s10)])) rfl (by rw [hml]; rfl) (Steps.refl _) (argsL := [(.int c7)]) (rest := []) (lenOf pd0 rfl) rfl (by show 2 * 0 + _ ≤ _; exact Nat.le_of_eq rfl) (hb hby at_156) (fun _ _ => ⟨rfl, e34, (by decide : 2 + 0 ≤ _), (by decide : 14 + 0 ≤ _)⟩)
        dsimp only [Pt.U, Pt.locs, Pt.cells, Pt.slots] at X48 l48 y48 z48 st48 hQ48
        subst l48 y48 z48
        obtain ⟨rfl, N48q, e48⟩ := hQ48
        have N48 := Fr.app N34 N48q
        refine Dn.by (U' := T48.setTop (mkF m 159 #[.val (.int p0), .val (.int p1), .val (.int p2), .val (.ref b1), .val (.ref b12), .val (.int (0 : Int32)), .val (.int (p1 &&& (3 : Int32))), .val (.int c7), .unset] [(.int (hold s10 c7 sh s11))])) (fun _ k => st48.trans k) ?_
        refine Dn.by (U' := T48.setTop (mkF m 161 #[.val (.int p0), .val (.int p1), .val (.int p2), .val (.ref b1), .val (.ref b12), .val (.int (0 : Int32)), .val (.int (p1 &&& (3 : Int32))), .val (.int c7), .val (.int (hold s10 c7 sh s11))] [])) (fun _ k => XS.istore X48.here hx rfl (hb hby at_159) rfl (l' := #[.val (.int p0), .val (.int p1), .val (.int p2), .val (.ref b1), .val (.ref b12), .val (.int (0 : Int32)), .val (.int (p1 &&& (3 : Int32))), .val (.int c7), .val (.int (hold s10 c7 sh s11))]) rfl k) ?_
        refine Dn.by (U' := T48.setTop (mkF m 163 #[.val (.int p0), .val (.int p1), .val (.int p2), .val (.ref b1), .val (.ref b12), .val (.int (0 : Int32)), .val (.int (p1 &&& (3 : Int32))), .val (.int c7), .val (.int (hold s10 c7 sh s11))] [(.int (hold s10 c7 sh s11))])) (fun _ k => XS.iload X48.here hx rfl (hb hby at_161) rfl k) ?_
        refine Dn.by (U' := T48.setTop (mkF m 165 #[.val (.int p0), .val (.int p1), .val (.int p2), .val (.ref b1), .val (.ref b12), .val (.int (0 : Int32)), .val (.int (p1 &&& (3 : Int32))), .val (.int c7), .val (.int (hold s10 c7 sh s11))] [(.int (0 : Int32)), (.int (hold s10 c7 sh s11))])) (fun _ k => XS.iload X48.here hx rfl (hb hby at_163) rfl k) ?_
        refine Dn.by (U' := T48.setTop (mkF m 167 #[.val (.int p0), .val (.int p1), .val (.int p2), .val (.ref b1), .val (.ref b12), .val (.int (0 : Int32)), .val (.int (p1 &&& (3 : Int32))), .val (.int c7), .val (.int (hold s10 c7 sh s11))] [(.int c7), (.int (0 : Int32)), (.int (hold s10 c7 sh s11))])) (fun _ k => XS.iload X48.here hx rfl (hb hby at_165) rfl k) ?_
        obtain ⟨_, _, ⟨T49, L49, k49, n49⟩, -, X49, ⟨Lc49, hQ49, l49, y49, z49⟩, st49⟩ := Jvm.LawKit.callS X48 hx (y := (⟨"com/example/osprey/osprey/transform/RepertoireHoldsPinLaw", "expected", "(II)Z"⟩ : MethodName)) hown (mvT hZ (hw _ (List.mem_of_getElem? (i := 27) rfl))) (mvT hZ (hw _ (List.mem_of_getElem? (i := 28) rfl))) (mvT hZ (hw _ (List.mem_of_getElem? (i := 29) rfl))) (mvT hZ (hw _ (List.mem_of_getElem? (i := 30) rfl))) (by decide) (backOf (W := 1) (rm2 l Z a0 hw [] (0 : Int32) c7  h34 n0 z35 ) hZ (hw _ (List.mem_of_getElem? (i := 30) rfl)) (hw _ (List.mem_of_getElem? (i := 29) rfl)) (by decide) (by decide)) (g := (mkF m 167 #[.val (.int p0), .val (.int p1), .val (.int p2), .val (.ref b1), .val (.ref b12), .val (.int (0 : Int32)), .val (.int (p1 &&& (3 : Int32))), .val (.int c7), .val (.int (hold s10 c7 sh s11))] [(.int c7), (.int (0 : Int32)), (.int (hold s10 c7 sh s11))])) rfl (by rw [hml]; rfl) (argsL := [(.int (0 : Int32)), (.int c7)]) (rest := [(.int (hold s10 c7 sh s11))]) (lenOf pd1 rfl) rfl (by show 2 * 0 + _ ≤ _; exact Nat.le_of_eq rfl) (hb hby at_167) (fun _ _ => ⟨rfl, e48, (by decide : 2 + 0 ≤ _), (by decide : 14 + 0 ≤ _)⟩)
        dsimp only [Pt.U, Pt.locs, Pt.cells, Pt.slots] at X49 l49 y49 z49 st49 hQ49
        subst l49 y49 z49
        obtain ⟨rfl, N49q, e49⟩ := hQ49
        have N49 := Fr.app N48 N49q
        refine Dn.by (U' := T49.setTop (mkF m 170 #[.val (.int p0), .val (.int p1), .val (.int p2), .val (.ref b1), .val (.ref b12), .val (.int (0 : Int32)), .val (.int (p1 &&& (3 : Int32))), .val (.int c7), .val (.int (hold s10 c7 sh s11))] [(.int (expd (0 : Int32) c7)), (.int (hold s10 c7 sh s11))])) st49 ?_
        refine Dn.by (U' := T49.setTop (mkF m 173 #[.val (.int p0), .val (.int p1), .val (.int p2), .val (.ref b1), .val (.ref b12), .val (.int (0 : Int32)), .val (.int (p1 &&& (3 : Int32))), .val (.int c7), .val (.int (hold s10 c7 sh s11))] [])) (fun _ k => XS.icmpNo X49.here hx rfl (hb hby at_170) rfl (teq (own_h0 _ _ _ _ ne0h ne01)).2 k) ?_
        refine Dn.by (U' := T49.setTop (mkF m 174 #[.val (.int p0), .val (.int p1), .val (.int p2), .val (.ref b1), .val (.ref b12), .val (.int (0 : Int32)), .val (.int (p1 &&& (3 : Int32))), .val (.int c7), .val (.int (hold s10 c7 sh s11))] [(.int (1 : Int32))])) (fun _ k => XS.iconst X49.here hx rfl (hb hby at_173)  k) ?_
        refine Dn.by (U' := T49.setTop (mkF m 178 #[.val (.int p0), .val (.int p1), .val (.int p2), .val (.ref b1), .val (.ref b12), .val (.int (0 : Int32)), .val (.int (p1 &&& (3 : Int32))), .val (.int c7), .val (.int (hold s10 c7 sh s11))] [(.int (1 : Int32))])) (fun _ k => XS.goto X49.here hx rfl (pc0 := 174) (pc' := 178) rfl (hb hby at_174) (by decide) (by decide) k) ?_
        refine Dn.out X49 (v := (some (.int (1 : Int32)))) (fun h => by rw [Bd.returns] at h; cases h) (BodyLoose.notSynchronized Bd) (fun _ hr => retN X49 hx (t := .boolean) Bd.returns (by simp) (hb hby at_178) hr) (by decide) (by decide) ?_
        rw [e49]
        exact ⟨rfl, N49⟩
      ·
        refine Dn.by (U' := T34.setTop (mkF m 151 #[.val (.int p0), .val (.int p1), .val (.int p2), .val (.ref b1), .val (.ref b12), .val (.int (1 : Int32)), .val (.int (p1 &&& (3 : Int32))), .val (.int c7), .unset] [(.ref b1)])) (fun _ k => XS.aloadN X34.here hx rfl (hb hby at_150) rfl rfl k) ?_
        refine Dn.by (U' := T34.setTop (mkF m 153 #[.val (.int p0), .val (.int p1), .val (.int p2), .val (.ref b1), .val (.ref b12), .val (.int (1 : Int32)), .val (.int (p1 &&& (3 : Int32))), .val (.int c7), .unset] [(.int (1 : Int32)), (.ref b1)])) (fun _ k => XS.iload X34.here hx rfl (hb hby at_151) rfl k) ?_
        obtain ⟨cl50, Ar50, q50, S50, M50, H50, G50⟩ := ((((((((((((V10b.ext E12).other W14 ne_b1_b12).other W16 ne_b1_b12).other W18 ne_b1_b12).other W20 ne_b1_b12).other W22 ne_b1_b12).other W24 ne_b1_b12).other W26 ne_b1_b12).other W28 ne_b1_b12).other W30 ne_b1_b12).other W32 ne_b1_b12).other W34 ne_b1_b12)
        have in50 := inb_of (j := (1 : Int32)) S50 ⟨by decide, by decide⟩
        have at50 : cl50.slots[(1 : Int32).toNatClampNeg]? = some (.ref s11) := H50.at in50 rfl
        refine Dn.by (U' := T34.setTop (mkF m 154 #[.val (.int p0), .val (.int p1), .val (.int p2), .val (.ref b1), .val (.ref b12), .val (.int (1 : Int32)), .val (.int (p1 &&& (3 : Int32))), .val (.int c7), .unset] [(.ref s11)])) (X34.aaload hx (j := (1 : Int32)) (v := (.ref s11)) (by rw [e34]; exact Ar50.1) (State.isArrayOf_alike hZ.alike Ar50.2.1) rfl Ar50.2.2 in50 at50 (g := (mkF m 153 #[.val (.int p0), .val (.int p1), .val (.int p2), .val (.ref b1), .val (.ref b12), .val (.int (1 : Int32)), .val (.int (p1 &&& (3 : Int32))), .val (.int c7), .unset] [(.int (1 : Int32)), (.ref b1)])) rfl rfl (hb hby at_153)) ?_
        refine Dn.by (U' := T34.setTop (mkF m 156 #[.val (.int p0), .val (.int p1), .val (.int p2), .val (.ref b1), .val (.ref b12), .val (.int (1 : Int32)), .val (.int (p1 &&& (3 : Int32))), .val (.int c7), .unset] [(.int c7), (.ref s11)])) (fun _ k => XS.iload X34.here hx rfl (hb hby at_154) rfl k) ?_
        obtain ⟨cq51, kq51, qa51, qb51, qc51⟩ := isOf hZ e34 ((((((((((((((((E_s11.ext E1).wr W4).wr W7).wr W10).ext E12).wr W14).wr W16).wr W18).wr W20).wr W22).wr W24).wr W26).wr W28).wr W30).wr W32).wr W34)
        obtain ⟨_, _, ⟨T51, L51, k51, n51⟩, -, X51, ⟨Lc51, hQ51, l51, y51, z51⟩, st51⟩ := X34.virtualBack hx (y := (⟨"com/example/osprey/osprey/transform/Repertoire", "holds", "(I)Z"⟩ : MethodName)) (z := (⟨"com/example/osprey/osprey/transform/Repertoire", "holds", "(I)Z"⟩ : MethodName)) hown (mvT hZ (hw _ (List.mem_of_getElem? (i := 18) rfl))) (mvT hZ (hw _ (List.mem_of_getElem? (i := 19) rfl))) (notFace_of_selects (args := #[]) (mvT hZ (hw _ (List.mem_of_getElem? (i := 21) rfl)))) (mvT hZ (hw _ (List.mem_of_getElem? (i := 21) rfl))) (mvT hZ (hw _ (List.mem_of_getElem? (i := 20) rfl))) (by decide) (backOf (W := 0) (rm1 l Z a0 hw [] s11 c7 sh s11 h34 n0 z35 (S_sh.ext O35.2) (S_s11.ext O35.2)) hZ (hw _ (List.mem_of_getElem? (i := 22) rfl)) (hw _ (List.mem_of_getElem? (i := 3) rfl)) (by decide) (by decide)) qa51 qc51 (g := (mkF m 156 #[.val (.int p0), .val (.int p1), .val (.int p2), .val (.ref b1), .val (.ref b12), .val (.int (1 : Int32)), .val (.int (p1 &&& (3 : Int32))), .val (.int c7), .unset] [(.int c7), (.ref s11)])) rfl (by rw [hml]; rfl) (Steps.refl _) (argsL := [(.int c7)]) (rest := []) (lenOf pd0 rfl) rfl (by show 2 * 0 + _ ≤ _; exact Nat.le_of_eq rfl) (hb hby at_156) (fun _ _ => ⟨rfl, e34, (by decide : 2 + 0 ≤ _), (by decide : 14 + 0 ≤ _)⟩)
        dsimp only [Pt.U, Pt.locs, Pt.cells, Pt.slots] at X51 l51 y51 z51 st51 hQ51
        subst l51 y51 z51
        obtain ⟨rfl, N51q, e51⟩ := hQ51
        have N51 := Fr.app N34 N51q
        refine Dn.by (U' := T51.setTop (mkF m 159 #[.val (.int p0), .val (.int p1), .val (.int p2), .val (.ref b1), .val (.ref b12), .val (.int (1 : Int32)), .val (.int (p1 &&& (3 : Int32))), .val (.int c7), .unset] [(.int (hold s11 c7 sh s11))])) (fun _ k => st51.trans k) ?_
        refine Dn.by (U' := T51.setTop (mkF m 161 #[.val (.int p0), .val (.int p1), .val (.int p2), .val (.ref b1), .val (.ref b12), .val (.int (1 : Int32)), .val (.int (p1 &&& (3 : Int32))), .val (.int c7), .val (.int (hold s11 c7 sh s11))] [])) (fun _ k => XS.istore X51.here hx rfl (hb hby at_159) rfl (l' := #[.val (.int p0), .val (.int p1), .val (.int p2), .val (.ref b1), .val (.ref b12), .val (.int (1 : Int32)), .val (.int (p1 &&& (3 : Int32))), .val (.int c7), .val (.int (hold s11 c7 sh s11))]) rfl k) ?_
        refine Dn.by (U' := T51.setTop (mkF m 163 #[.val (.int p0), .val (.int p1), .val (.int p2), .val (.ref b1), .val (.ref b12), .val (.int (1 : Int32)), .val (.int (p1 &&& (3 : Int32))), .val (.int c7), .val (.int (hold s11 c7 sh s11))] [(.int (hold s11 c7 sh s11))])) (fun _ k => XS.iload X51.here hx rfl (hb hby at_161) rfl k) ?_
        refine Dn.by (U' := T51.setTop (mkF m 165 #[.val (.int p0), .val (.int p1), .val (.int p2), .val (.ref b1), .val (.ref b12), .val (.int (1 : Int32)), .val (.int (p1 &&& (3 : Int32))), .val (.int c7), .val (.int (hold s11 c7 sh s11))] [(.int (1 : Int32)), (.int (hold s11 c7 sh s11))])) (fun _ k => XS.iload X51.here hx rfl (hb hby at_163) rfl k) ?_
        refine Dn.by (U' := T51.setTop (mkF m 167 #[.val (.int p0), .val (.int p1), .val (.int p2), .val (.ref b1), .val (.ref b12), .val (.int (1 : Int32)), .val (.int (p1 &&& (3 : Int32))), .val (.int c7), .val (.int (hold s11 c7 sh s11))] [(.int c7), (.int (1 : Int32)), (.int (hold s11 c7 sh s11))])) (fun _ k => XS.iload X51.here hx rfl (hb hby at_165) rfl k) ?_
        obtain ⟨_, _, ⟨T52, L52, k52, n52⟩, -, X52, ⟨Lc52, hQ52, l52, y52, z52⟩, st52⟩ := Jvm.LawKit.callS X51 hx (y := (⟨"com/example/osprey/osprey/transform/RepertoireHoldsPinLaw", "expected", "(II)Z"⟩ : MethodName)) hown (mvT hZ (hw _ (List.mem_of_getElem? (i := 27) rfl))) (mvT hZ (hw _ (List.mem_of_getElem? (i := 28) rfl))) (mvT hZ (hw _ (List.mem_of_getElem? (i := 29) rfl))) (mvT hZ (hw _ (List.mem_of_getElem? (i := 30) rfl))) (by decide) (backOf (W := 1) (rm2 l Z a0 hw [] (1 : Int32) c7  h34 n0 z35 ) hZ (hw _ (List.mem_of_getElem? (i := 30) rfl)) (hw _ (List.mem_of_getElem? (i := 29) rfl)) (by decide) (by decide)) (g := (mkF m 167 #[.val (.int p0), .val (.int p1), .val (.int p2), .val (.ref b1), .val (.ref b12), .val (.int (1 : Int32)), .val (.int (p1 &&& (3 : Int32))), .val (.int c7), .val (.int (hold s11 c7 sh s11))] [(.int c7), (.int (1 : Int32)), (.int (hold s11 c7 sh s11))])) rfl (by rw [hml]; rfl) (argsL := [(.int (1 : Int32)), (.int c7)]) (rest := [(.int (hold s11 c7 sh s11))]) (lenOf pd1 rfl) rfl (by show 2 * 0 + _ ≤ _; exact Nat.le_of_eq rfl) (hb hby at_167) (fun _ _ => ⟨rfl, e51, (by decide : 2 + 0 ≤ _), (by decide : 14 + 0 ≤ _)⟩)
        dsimp only [Pt.U, Pt.locs, Pt.cells, Pt.slots] at X52 l52 y52 z52 st52 hQ52
        subst l52 y52 z52
        obtain ⟨rfl, N52q, e52⟩ := hQ52
        have N52 := Fr.app N51 N52q
        refine Dn.by (U' := T52.setTop (mkF m 170 #[.val (.int p0), .val (.int p1), .val (.int p2), .val (.ref b1), .val (.ref b12), .val (.int (1 : Int32)), .val (.int (p1 &&& (3 : Int32))), .val (.int c7), .val (.int (hold s11 c7 sh s11))] [(.int (expd (1 : Int32) c7)), (.int (hold s11 c7 sh s11))])) st52 ?_
        refine Dn.by (U' := T52.setTop (mkF m 173 #[.val (.int p0), .val (.int p1), .val (.int p2), .val (.ref b1), .val (.ref b12), .val (.int (1 : Int32)), .val (.int (p1 &&& (3 : Int32))), .val (.int c7), .val (.int (hold s11 c7 sh s11))] [])) (fun _ k => XS.icmpNo X52.here hx rfl (hb hby at_170) rfl (teq (own_h1 _ _ _ ne1h)).2 k) ?_
        refine Dn.by (U' := T52.setTop (mkF m 174 #[.val (.int p0), .val (.int p1), .val (.int p2), .val (.ref b1), .val (.ref b12), .val (.int (1 : Int32)), .val (.int (p1 &&& (3 : Int32))), .val (.int c7), .val (.int (hold s11 c7 sh s11))] [(.int (1 : Int32))])) (fun _ k => XS.iconst X52.here hx rfl (hb hby at_173)  k) ?_
        refine Dn.by (U' := T52.setTop (mkF m 178 #[.val (.int p0), .val (.int p1), .val (.int p2), .val (.ref b1), .val (.ref b12), .val (.int (1 : Int32)), .val (.int (p1 &&& (3 : Int32))), .val (.int c7), .val (.int (hold s11 c7 sh s11))] [(.int (1 : Int32))])) (fun _ k => XS.goto X52.here hx rfl (pc0 := 174) (pc' := 178) rfl (hb hby at_174) (by decide) (by decide) k) ?_
        refine Dn.out X52 (v := (some (.int (1 : Int32)))) (fun h => by rw [Bd.returns] at h; cases h) (BodyLoose.notSynchronized Bd) (fun _ hr => retN X52 hx (t := .boolean) Bd.returns (by simp) (hb hby at_178) hr) (by decide) (by decide) ?_
        rw [e52]
        exact ⟨rfl, N52⟩
      ·
        refine Dn.by (U' := T34.setTop (mkF m 151 #[.val (.int p0), .val (.int p1), .val (.int p2), .val (.ref b1), .val (.ref b12), .val (.int (2 : Int32)), .val (.int (p1 &&& (3 : Int32))), .val (.int c7), .unset] [(.ref b1)])) (fun _ k => XS.aloadN X34.here hx rfl (hb hby at_150) rfl rfl k) ?_
        refine Dn.by (U' := T34.setTop (mkF m 153 #[.val (.int p0), .val (.int p1), .val (.int p2), .val (.ref b1), .val (.ref b12), .val (.int (2 : Int32)), .val (.int (p1 &&& (3 : Int32))), .val (.int c7), .unset] [(.int (2 : Int32)), (.ref b1)])) (fun _ k => XS.iload X34.here hx rfl (hb hby at_151) rfl k) ?_
        obtain ⟨cl53, Ar53, q53, S53, M53, H53, G53⟩ := ((((((((((((V10b.ext E12).other W14 ne_b1_b12).other W16 ne_b1_b12).other W18 ne_b1_b12).other W20 ne_b1_b12).other W22 ne_b1_b12).other W24 ne_b1_b12).other W26 ne_b1_b12).other W28 ne_b1_b12).other W30 ne_b1_b12).other W32 ne_b1_b12).other W34 ne_b1_b12)
        have in53 := inb_of (j := (2 : Int32)) S53 ⟨by decide, by decide⟩
        have at53 : cl53.slots[(2 : Int32).toNatClampNeg]? = some (.ref sh) := H53.at in53 rfl
        refine Dn.by (U' := T34.setTop (mkF m 154 #[.val (.int p0), .val (.int p1), .val (.int p2), .val (.ref b1), .val (.ref b12), .val (.int (2 : Int32)), .val (.int (p1 &&& (3 : Int32))), .val (.int c7), .unset] [(.ref sh)])) (X34.aaload hx (j := (2 : Int32)) (v := (.ref sh)) (by rw [e34]; exact Ar53.1) (State.isArrayOf_alike hZ.alike Ar53.2.1) rfl Ar53.2.2 in53 at53 (g := (mkF m 153 #[.val (.int p0), .val (.int p1), .val (.int p2), .val (.ref b1), .val (.ref b12), .val (.int (2 : Int32)), .val (.int (p1 &&& (3 : Int32))), .val (.int c7), .unset] [(.int (2 : Int32)), (.ref b1)])) rfl rfl (hb hby at_153)) ?_
        refine Dn.by (U' := T34.setTop (mkF m 156 #[.val (.int p0), .val (.int p1), .val (.int p2), .val (.ref b1), .val (.ref b12), .val (.int (2 : Int32)), .val (.int (p1 &&& (3 : Int32))), .val (.int c7), .unset] [(.int c7), (.ref sh)])) (fun _ k => XS.iload X34.here hx rfl (hb hby at_154) rfl k) ?_
        obtain ⟨cq54, kq54, qa54, qb54, qc54⟩ := isOf hZ e34 ((((((((((((((((E_sh.ext E1).wr W4).wr W7).wr W10).ext E12).wr W14).wr W16).wr W18).wr W20).wr W22).wr W24).wr W26).wr W28).wr W30).wr W32).wr W34)
        obtain ⟨_, _, ⟨T54, L54, k54, n54⟩, -, X54, ⟨Lc54, hQ54, l54, y54, z54⟩, st54⟩ := X34.virtualBack hx (y := (⟨"com/example/osprey/osprey/transform/Repertoire", "holds", "(I)Z"⟩ : MethodName)) (z := (⟨"com/example/osprey/osprey/transform/Repertoire", "holds", "(I)Z"⟩ : MethodName)) hown (mvT hZ (hw _ (List.mem_of_getElem? (i := 18) rfl))) (mvT hZ (hw _ (List.mem_of_getElem? (i := 19) rfl))) (notFace_of_selects (args := #[]) (mvT hZ (hw _ (List.mem_of_getElem? (i := 21) rfl)))) (mvT hZ (hw _ (List.mem_of_getElem? (i := 21) rfl))) (mvT hZ (hw _ (List.mem_of_getElem? (i := 20) rfl))) (by decide) (backOf (W := 0) (rm1 l Z a0 hw [] sh c7 sh s11 h34 n0 z35 (S_sh.ext O35.2) (S_s11.ext O35.2)) hZ (hw _ (List.mem_of_getElem? (i := 22) rfl)) (hw _ (List.mem_of_getElem? (i := 3) rfl)) (by decide) (by decide)) qa54 qc54 (g := (mkF m 156 #[.val (.int p0), .val (.int p1), .val (.int p2), .val (.ref b1), .val (.ref b12), .val (.int (2 : Int32)), .val (.int (p1 &&& (3 : Int32))), .val (.int c7), .unset] [(.int c7), (.ref sh)])) rfl (by rw [hml]; rfl) (Steps.refl _) (argsL := [(.int c7)]) (rest := []) (lenOf pd0 rfl) rfl (by show 2 * 0 + _ ≤ _; exact Nat.le_of_eq rfl) (hb hby at_156) (fun _ _ => ⟨rfl, e34, (by decide : 2 + 0 ≤ _), (by decide : 14 + 0 ≤ _)⟩)
        dsimp only [Pt.U, Pt.locs, Pt.cells, Pt.slots] at X54 l54 y54 z54 st54 hQ54
        subst l54 y54 z54
        obtain ⟨rfl, N54q, e54⟩ := hQ54
        have N54 := Fr.app N34 N54q
        refine Dn.by (U' := T54.setTop (mkF m 159 #[.val (.int p0), .val (.int p1), .val (.int p2), .val (.ref b1), .val (.ref b12), .val (.int (2 : Int32)), .val (.int (p1 &&& (3 : Int32))), .val (.int c7), .unset] [(.int (hold sh c7 sh s11))])) (fun _ k => st54.trans k) ?_
        refine Dn.by (U' := T54.setTop (mkF m 161 #[.val (.int p0), .val (.int p1), .val (.int p2), .val (.ref b1), .val (.ref b12), .val (.int (2 : Int32)), .val (.int (p1 &&& (3 : Int32))), .val (.int c7), .val (.int (hold sh c7 sh s11))] [])) (fun _ k => XS.istore X54.here hx rfl (hb hby at_159) rfl (l' := #[.val (.int p0), .val (.int p1), .val (.int p2), .val (.ref b1), .val (.ref b12), .val (.int (2 : Int32)), .val (.int (p1 &&& (3 : Int32))), .val (.int c7), .val (.int (hold sh c7 sh s11))]) rfl k) ?_
        refine Dn.by (U' := T54.setTop (mkF m 163 #[.val (.int p0), .val (.int p1), .val (.int p2), .val (.ref b1), .val (.ref b12), .val (.int (2 : Int32)), .val (.int (p1 &&& (3 : Int32))), .val (.int c7), .val (.int (hold sh c7 sh s11))] [(.int (hold sh c7 sh s11))])) (fun _ k => XS.iload X54.here hx rfl (hb hby at_161) rfl k) ?_
        refine Dn.by (U' := T54.setTop (mkF m 165 #[.val (.int p0), .val (.int p1), .val (.int p2), .val (.ref b1), .val (.ref b12), .val (.int (2 : Int32)), .val (.int (p1 &&& (3 : Int32))), .val (.int c7), .val (.int (hold sh c7 sh s11))] [(.int (2 : Int32)), (.int (hold sh c7 sh s11))])) (fun _ k => XS.iload X54.here hx rfl (hb hby at_163) rfl k) ?_
        refine Dn.by (U' := T54.setTop (mkF m 167 #[.val (.int p0), .val (.int p1), .val (.int p2), .val (.ref b1), .val (.ref b12), .val (.int (2 : Int32)), .val (.int (p1 &&& (3 : Int32))), .val (.int c7), .val (.int (hold sh c7 sh s11))] [(.int c7), (.int (2 : Int32)), (.int (hold sh c7 sh s11))])) (fun _ k => XS.iload X54.here hx rfl (hb hby at_165) rfl k) ?_
        obtain ⟨_, _, ⟨T55, L55, k55, n55⟩, -, X55, ⟨Lc55, hQ55, l55, y55, z55⟩, st55⟩ := Jvm.LawKit.callS X54 hx (y := (⟨"com/example/osprey/osprey/transform/RepertoireHoldsPinLaw", "expected", "(II)Z"⟩ : MethodName)) hown (mvT hZ (hw _ (List.mem_of_getElem? (i := 27) rfl))) (mvT hZ (hw _ (List.mem_of_getElem? (i := 28) rfl))) (mvT hZ (hw _ (List.mem_of_getElem? (i := 29) rfl))) (mvT hZ (hw _ (List.mem_of_getElem? (i := 30) rfl))) (by decide) (backOf (W := 1) (rm2 l Z a0 hw [] (2 : Int32) c7  h34 n0 z35 ) hZ (hw _ (List.mem_of_getElem? (i := 30) rfl)) (hw _ (List.mem_of_getElem? (i := 29) rfl)) (by decide) (by decide)) (g := (mkF m 167 #[.val (.int p0), .val (.int p1), .val (.int p2), .val (.ref b1), .val (.ref b12), .val (.int (2 : Int32)), .val (.int (p1 &&& (3 : Int32))), .val (.int c7), .val (.int (hold sh c7 sh s11))] [(.int c7), (.int (2 : Int32)), (.int (hold sh c7 sh s11))])) rfl (by rw [hml]; rfl) (argsL := [(.int (2 : Int32)), (.int c7)]) (rest := [(.int (hold sh c7 sh s11))]) (lenOf pd1 rfl) rfl (by show 2 * 0 + _ ≤ _; exact Nat.le_of_eq rfl) (hb hby at_167) (fun _ _ => ⟨rfl, e54, (by decide : 2 + 0 ≤ _), (by decide : 14 + 0 ≤ _)⟩)
        dsimp only [Pt.U, Pt.locs, Pt.cells, Pt.slots] at X55 l55 y55 z55 st55 hQ55
        subst l55 y55 z55
        obtain ⟨rfl, N55q, e55⟩ := hQ55
        have N55 := Fr.app N54 N55q
        refine Dn.by (U' := T55.setTop (mkF m 170 #[.val (.int p0), .val (.int p1), .val (.int p2), .val (.ref b1), .val (.ref b12), .val (.int (2 : Int32)), .val (.int (p1 &&& (3 : Int32))), .val (.int c7), .val (.int (hold sh c7 sh s11))] [(.int (expd (2 : Int32) c7)), (.int (hold sh c7 sh s11))])) st55 ?_
        refine Dn.by (U' := T55.setTop (mkF m 173 #[.val (.int p0), .val (.int p1), .val (.int p2), .val (.ref b1), .val (.ref b12), .val (.int (2 : Int32)), .val (.int (p1 &&& (3 : Int32))), .val (.int c7), .val (.int (hold sh c7 sh s11))] [])) (fun _ k => XS.icmpNo X55.here hx rfl (hb hby at_170) rfl (teq (own_h2 _ _ _)).2 k) ?_
        refine Dn.by (U' := T55.setTop (mkF m 174 #[.val (.int p0), .val (.int p1), .val (.int p2), .val (.ref b1), .val (.ref b12), .val (.int (2 : Int32)), .val (.int (p1 &&& (3 : Int32))), .val (.int c7), .val (.int (hold sh c7 sh s11))] [(.int (1 : Int32))])) (fun _ k => XS.iconst X55.here hx rfl (hb hby at_173)  k) ?_
        refine Dn.by (U' := T55.setTop (mkF m 178 #[.val (.int p0), .val (.int p1), .val (.int p2), .val (.ref b1), .val (.ref b12), .val (.int (2 : Int32)), .val (.int (p1 &&& (3 : Int32))), .val (.int c7), .val (.int (hold sh c7 sh s11))] [(.int (1 : Int32))])) (fun _ k => XS.goto X55.here hx rfl (pc0 := 174) (pc' := 178) rfl (hb hby at_174) (by decide) (by decide) k) ?_
        refine Dn.out X55 (v := (some (.int (1 : Int32)))) (fun h => by rw [Bd.returns] at h; cases h) (BodyLoose.notSynchronized Bd) (fun _ hr => retN X55 hx (t := .boolean) Bd.returns (by simp) (hb hby at_178) hr) (by decide) (by decide) ?_
        rw [e55]
        exact ⟨rfl, N55⟩
    ·
      refine Dn.by (U' := T34.setTop (mkF m 127 #[.val (.int p0), .val (.int p1), .val (.int p2), .val (.ref b1), .val (.ref b12), .val (.int kd), .val (.int (p1 &&& (3 : Int32))), .unset, .unset] [])) (fun _ k => XS.icmpYes X34.here hx rfl (pc0 := 115) (pc' := 127) rfl (hb hby at_115) rfl (feq c115_46).2 (by decide) (by decide) k) ?_
      refine Dn.by (U' := T34.setTop (mkF m 128 #[.val (.int p0), .val (.int p1), .val (.int p2), .val (.ref b1), .val (.ref b12), .val (.int kd), .val (.int (p1 &&& (3 : Int32))), .unset, .unset] [(.int p1)])) (fun _ k => XS.iloadN X34.here hx rfl (hb hby at_127) rfl k) ?_
      refine Dn.by (U' := T34.setTop (mkF m 129 #[.val (.int p0), .val (.int p1), .val (.int p2), .val (.ref b1), .val (.ref b12), .val (.int kd), .val (.int (p1 &&& (3 : Int32))), .unset, .unset] [(.int (2 : Int32)), (.int p1)])) (fun _ k => XS.iconst X34.here hx rfl (hb hby at_128)  k) ?_
      refine Dn.by (U' := T34.setTop (mkF m 130 #[.val (.int p0), .val (.int p1), .val (.int p2), .val (.ref b1), .val (.ref b12), .val (.int kd), .val (.int (p1 &&& (3 : Int32))), .unset, .unset] [(.int ((p1.toUInt32 >>> ((2 : Int32) &&& 31).toUInt32).toInt32))])) (fun _ k => XS.iushr X34.here hx rfl (hb hby at_129) rfl k) ?_
      refine Dn.by (U' := T34.setTop (mkF m 132 #[.val (.int p0), .val (.int p1), .val (.int p2), .val (.ref b1), .val (.ref b12), .val (.int kd), .val (.int (p1 &&& (3 : Int32))), .unset, .unset] [(.int (15 : Int32)), (.int ((p1.toUInt32 >>> ((2 : Int32) &&& 31).toUInt32).toInt32))])) (fun _ k => XS.bipush X34.here hx rfl (hb hby at_130)  k) ?_
      refine Dn.by (U' := T34.setTop (mkF m 133 #[.val (.int p0), .val (.int p1), .val (.int p2), .val (.ref b1), .val (.ref b12), .val (.int kd), .val (.int (p1 &&& (3 : Int32))), .unset, .unset] [(.int (((p1.toUInt32 >>> ((2 : Int32) &&& 31).toUInt32).toInt32) &&& (15 : Int32)))])) (fun _ k => XS.iand X34.here hx rfl (hb hby at_132) rfl k) ?_
      refine Dn.by (U' := T34.setTop (mkF m 135 #[.val (.int p0), .val (.int p1), .val (.int p2), .val (.ref b1), .val (.ref b12), .val (.int kd), .val (.int (p1 &&& (3 : Int32))), .unset, .unset] [(.int (11 : Int32)), (.int (((p1.toUInt32 >>> ((2 : Int32) &&& 31).toUInt32).toInt32) &&& (15 : Int32)))])) (fun _ k => XS.bipush X34.here hx rfl (hb hby at_133)  k) ?_
      refine Dn.by (U' := T34.setTop (mkF m 136 #[.val (.int p0), .val (.int p1), .val (.int p2), .val (.ref b1), .val (.ref b12), .val (.int kd), .val (.int (p1 &&& (3 : Int32))), .unset, .unset] [(.int ((((p1.toUInt32 >>> ((2 : Int32) &&& 31).toUInt32).toInt32) &&& (15 : Int32)) % (11 : Int32)))])) (fun _ k => iremM X34 hx rfl (hb hby at_135) rfl (by decide) k) ?_
      generalize h_ix : ((((p1.toUInt32 >>> ((2 : Int32) &&& 31).toUInt32).toInt32) &&& (15 : Int32)) % (11 : Int32)) = ix
      have hix : ¬ ix < (0 : Int32) ∧ ix < (11 : Int32) := by
        have a := c_iushr p1 (2 : Int32) 2 (by decide) (by decide)
        have b := c_mask ((p1.toUInt32 >>> ((2 : Int32) &&& 31).toUInt32).toInt32) (15 : Int32) 4 (by decide) (by decide)
        have c := c_irem (((p1.toUInt32 >>> ((2 : Int32) &&& 31).toUInt32).toInt32) &&& (15 : Int32)) (11 : Int32) 11 (by decide)
        rw [h_ix] at c
        have l0 : (0 : Int32).toInt = 0 := by decide
        have l11 : (11 : Int32).toInt = 11 := by decide
        rw [Int32.lt_iff_toInt_lt, Int32.lt_iff_toInt_lt]
        omega
      refine Dn.by (U' := T34.setTop (mkF m 138 #[.val (.int p0), .val (.int p1), .val (.int p2), .val (.ref b1), .val (.ref b12), .val (.int kd), .val (.int (p1 &&& (3 : Int32))), .unset, .val (.int ix)] [])) (fun _ k => XS.istore X34.here hx rfl (hb hby at_136) rfl (l' := #[.val (.int p0), .val (.int p1), .val (.int p2), .val (.ref b1), .val (.ref b12), .val (.int kd), .val (.int (p1 &&& (3 : Int32))), .unset, .val (.int ix)]) rfl k) ?_
      refine Dn.by (U' := T34.setTop (mkF m 140 #[.val (.int p0), .val (.int p1), .val (.int p2), .val (.ref b1), .val (.ref b12), .val (.int kd), .val (.int (p1 &&& (3 : Int32))), .unset, .val (.int ix)] [(.ref b12)])) (fun _ k => XS.aload X34.here hx rfl (hb hby at_138) rfl rfl k) ?_
      refine Dn.by (U' := T34.setTop (mkF m 142 #[.val (.int p0), .val (.int p1), .val (.int p2), .val (.ref b1), .val (.ref b12), .val (.int kd), .val (.int (p1 &&& (3 : Int32))), .unset, .val (.int ix)] [(.int ix), (.ref b12)])) (fun _ k => XS.iload X34.here hx rfl (hb hby at_140) rfl k) ?_
      obtain ⟨pv, hpv⟩ := own_piv ix
      obtain ⟨cl56, Ar56, q56, S56, M56, H56, G56⟩ := V34b
      have in56 := inb_of (j := ix) S56 hix
      have at56 : cl56.slots[ix.toNatClampNeg]? = some (.int pv) := H56.at in56 hpv
      refine Dn.by (U' := T34.setTop (mkF m 143 #[.val (.int p0), .val (.int p1), .val (.int p2), .val (.ref b1), .val (.ref b12), .val (.int kd), .val (.int (p1 &&& (3 : Int32))), .unset, .val (.int ix)] [(.int pv)])) (X34.iaload hx (j := ix) (v := (.int pv)) (by rw [e34]; exact Ar56.1) (State.isArrayOf_alike hZ.alike Ar56.2.1) Ar56.2.2 in56 at56 (g := (mkF m 142 #[.val (.int p0), .val (.int p1), .val (.int p2), .val (.ref b1), .val (.ref b12), .val (.int kd), .val (.int (p1 &&& (3 : Int32))), .unset, .val (.int ix)] [(.int ix), (.ref b12)])) rfl rfl (hb hby at_142)) ?_
      refine Dn.by (U' := T34.setTop (mkF m 144 #[.val (.int p0), .val (.int p1), .val (.int p2), .val (.ref b1), .val (.ref b12), .val (.int kd), .val (.int (p1 &&& (3 : Int32))), .unset, .val (.int ix)] [(.int p2), (.int pv)])) (fun _ k => XS.iloadN X34.here hx rfl (hb hby at_143) rfl k) ?_
      refine Dn.by (U' := T34.setTop (mkF m 146 #[.val (.int p0), .val (.int p1), .val (.int p2), .val (.ref b1), .val (.ref b12), .val (.int kd), .val (.int (p1 &&& (3 : Int32))), .unset, .val (.int ix)] [(.int (28 : Int32)), (.int p2), (.int pv)])) (fun _ k => XS.bipush X34.here hx rfl (hb hby at_144)  k) ?_
      refine Dn.by (U' := T34.setTop (mkF m 147 #[.val (.int p0), .val (.int p1), .val (.int p2), .val (.ref b1), .val (.ref b12), .val (.int kd), .val (.int (p1 &&& (3 : Int32))), .unset, .val (.int ix)] [(.int (p2 >>> ((28 : Int32) &&& 31))), (.int pv)])) (fun _ k => XS.ishr X34.here hx rfl (hb hby at_146) rfl k) ?_
      refine Dn.by (U' := T34.setTop (mkF m 148 #[.val (.int p0), .val (.int p1), .val (.int p2), .val (.ref b1), .val (.ref b12), .val (.int kd), .val (.int (p1 &&& (3 : Int32))), .unset, .val (.int ix)] [(.int (pv + (p2 >>> ((28 : Int32) &&& 31))))])) (fun _ k => XS.iadd X34.here hx rfl (hb hby at_147) rfl k) ?_
      refine Dn.by (U' := T34.setTop (mkF m 150 #[.val (.int p0), .val (.int p1), .val (.int p2), .val (.ref b1), .val (.ref b12), .val (.int kd), .val (.int (p1 &&& (3 : Int32))), .val (.int (pv + (p2 >>> ((28 : Int32) &&& 31)))), .val (.int ix)] [])) (fun _ k => XS.istore X34.here hx rfl (hb hby at_148) rfl (l' := #[.val (.int p0), .val (.int p1), .val (.int p2), .val (.ref b1), .val (.ref b12), .val (.int kd), .val (.int (p1 &&& (3 : Int32))), .val (.int (pv + (p2 >>> ((28 : Int32) &&& 31)))), .val (.int ix)]) rfl k) ?_
      generalize h_c7 : (pv + (p2 >>> ((28 : Int32) &&& 31))) = c7
      rcases hkd with rfl | rfl | rfl
      ·
        refine Dn.by (U' := T34.setTop (mkF m 151 #[.val (.int p0), .val (.int p1), .val (.int p2), .val (.ref b1), .val (.ref b12), .val (.int (0 : Int32)), .val (.int (p1 &&& (3 : Int32))), .val (.int c7), .val (.int ix)] [(.ref b1)])) (fun _ k => XS.aloadN X34.here hx rfl (hb hby at_150) rfl rfl k) ?_
        refine Dn.by (U' := T34.setTop (mkF m 153 #[.val (.int p0), .val (.int p1), .val (.int p2), .val (.ref b1), .val (.ref b12), .val (.int (0 : Int32)), .val (.int (p1 &&& (3 : Int32))), .val (.int c7), .val (.int ix)] [(.int (0 : Int32)), (.ref b1)])) (fun _ k => XS.iload X34.here hx rfl (hb hby at_151) rfl k) ?_
        obtain ⟨cl57, Ar57, q57, S57, M57, H57, G57⟩ := ((((((((((((V10b.ext E12).other W14 ne_b1_b12).other W16 ne_b1_b12).other W18 ne_b1_b12).other W20 ne_b1_b12).other W22 ne_b1_b12).other W24 ne_b1_b12).other W26 ne_b1_b12).other W28 ne_b1_b12).other W30 ne_b1_b12).other W32 ne_b1_b12).other W34 ne_b1_b12)
        have in57 := inb_of (j := (0 : Int32)) S57 ⟨by decide, by decide⟩
        have at57 : cl57.slots[(0 : Int32).toNatClampNeg]? = some (.ref s10) := H57.at in57 rfl
        refine Dn.by (U' := T34.setTop (mkF m 154 #[.val (.int p0), .val (.int p1), .val (.int p2), .val (.ref b1), .val (.ref b12), .val (.int (0 : Int32)), .val (.int (p1 &&& (3 : Int32))), .val (.int c7), .val (.int ix)] [(.ref s10)])) (X34.aaload hx (j := (0 : Int32)) (v := (.ref s10)) (by rw [e34]; exact Ar57.1) (State.isArrayOf_alike hZ.alike Ar57.2.1) rfl Ar57.2.2 in57 at57 (g := (mkF m 153 #[.val (.int p0), .val (.int p1), .val (.int p2), .val (.ref b1), .val (.ref b12), .val (.int (0 : Int32)), .val (.int (p1 &&& (3 : Int32))), .val (.int c7), .val (.int ix)] [(.int (0 : Int32)), (.ref b1)])) rfl rfl (hb hby at_153)) ?_
        refine Dn.by (U' := T34.setTop (mkF m 156 #[.val (.int p0), .val (.int p1), .val (.int p2), .val (.ref b1), .val (.ref b12), .val (.int (0 : Int32)), .val (.int (p1 &&& (3 : Int32))), .val (.int c7), .val (.int ix)] [(.int c7), (.ref s10)])) (fun _ k => XS.iload X34.here hx rfl (hb hby at_154) rfl k) ?_
        obtain ⟨cq58, kq58, qa58, qb58, qc58⟩ := isOf hZ e34 ((((((((((((((((E_s10.ext E1).wr W4).wr W7).wr W10).ext E12).wr W14).wr W16).wr W18).wr W20).wr W22).wr W24).wr W26).wr W28).wr W30).wr W32).wr W34)
        obtain ⟨_, _, ⟨T58, L58, k58, n58⟩, -, X58, ⟨Lc58, hQ58, l58, y58, z58⟩, st58⟩ := X34.virtualBack hx (y := (⟨"com/example/osprey/osprey/transform/Repertoire", "holds", "(I)Z"⟩ : MethodName)) (z := (⟨"com/example/osprey/osprey/transform/Repertoire", "holds", "(I)Z"⟩ : MethodName)) hown (mvT hZ (hw _ (List.mem_of_getElem? (i := 18) rfl))) (mvT hZ (hw _ (List.mem_of_getElem? (i := 19) rfl))) (notFace_of_selects (args := #[]) (mvT hZ (hw _ (List.mem_of_getElem? (i := 21) rfl)))) (mvT hZ (hw _ (List.mem_of_getElem? (i := 21) rfl))) (mvT hZ (hw _ (List.mem_of_getElem? (i := 20) rfl))) (by decide) (backOf (W := 0) (rm1 l Z a0 hw [] s10 c7 sh s11 h34 n0 z35 (S_sh.ext O35.2) (S_s11.ext O35.2)) hZ (hw _ (List.mem_of_getElem? (i := 22) rfl)) (hw _ (List.mem_of_getElem? (i := 3) rfl)) (by decide) (by decide)) qa58 qc58 (g := (mkF m 156 #[.val (.int p0), .val (.int p1), .val (.int p2), .val (.ref b1), .val (.ref b12), .val (.int (0 : Int32)), .val (.int (p1 &&& (3 : Int32))), .val (.int c7), .val (.int ix)] [(.int c7), (.ref s10)])) rfl (by rw [hml]; rfl) (Steps.refl _) (argsL := [(.int c7)]) (rest := []) (lenOf pd0 rfl) rfl (by show 2 * 0 + _ ≤ _; exact Nat.le_of_eq rfl) (hb hby at_156) (fun _ _ => ⟨rfl, e34, (by decide : 2 + 0 ≤ _), (by decide : 14 + 0 ≤ _)⟩)
        dsimp only [Pt.U, Pt.locs, Pt.cells, Pt.slots] at X58 l58 y58 z58 st58 hQ58
        subst l58 y58 z58
        obtain ⟨rfl, N58q, e58⟩ := hQ58
        have N58 := Fr.app N34 N58q
        refine Dn.by (U' := T58.setTop (mkF m 159 #[.val (.int p0), .val (.int p1), .val (.int p2), .val (.ref b1), .val (.ref b12), .val (.int (0 : Int32)), .val (.int (p1 &&& (3 : Int32))), .val (.int c7), .val (.int ix)] [(.int (hold s10 c7 sh s11))])) (fun _ k => st58.trans k) ?_
        refine Dn.by (U' := T58.setTop (mkF m 161 #[.val (.int p0), .val (.int p1), .val (.int p2), .val (.ref b1), .val (.ref b12), .val (.int (0 : Int32)), .val (.int (p1 &&& (3 : Int32))), .val (.int c7), .val (.int (hold s10 c7 sh s11))] [])) (fun _ k => XS.istore X58.here hx rfl (hb hby at_159) rfl (l' := #[.val (.int p0), .val (.int p1), .val (.int p2), .val (.ref b1), .val (.ref b12), .val (.int (0 : Int32)), .val (.int (p1 &&& (3 : Int32))), .val (.int c7), .val (.int (hold s10 c7 sh s11))]) rfl k) ?_
        refine Dn.by (U' := T58.setTop (mkF m 163 #[.val (.int p0), .val (.int p1), .val (.int p2), .val (.ref b1), .val (.ref b12), .val (.int (0 : Int32)), .val (.int (p1 &&& (3 : Int32))), .val (.int c7), .val (.int (hold s10 c7 sh s11))] [(.int (hold s10 c7 sh s11))])) (fun _ k => XS.iload X58.here hx rfl (hb hby at_161) rfl k) ?_
        refine Dn.by (U' := T58.setTop (mkF m 165 #[.val (.int p0), .val (.int p1), .val (.int p2), .val (.ref b1), .val (.ref b12), .val (.int (0 : Int32)), .val (.int (p1 &&& (3 : Int32))), .val (.int c7), .val (.int (hold s10 c7 sh s11))] [(.int (0 : Int32)), (.int (hold s10 c7 sh s11))])) (fun _ k => XS.iload X58.here hx rfl (hb hby at_163) rfl k) ?_
        refine Dn.by (U' := T58.setTop (mkF m 167 #[.val (.int p0), .val (.int p1), .val (.int p2), .val (.ref b1), .val (.ref b12), .val (.int (0 : Int32)), .val (.int (p1 &&& (3 : Int32))), .val (.int c7), .val (.int (hold s10 c7 sh s11))] [(.int c7), (.int (0 : Int32)), (.int (hold s10 c7 sh s11))])) (fun _ k => XS.iload X58.here hx rfl (hb hby at_165) rfl k) ?_
        obtain ⟨_, _, ⟨T59, L59, k59, n59⟩, -, X59, ⟨Lc59, hQ59, l59, y59, z59⟩, st59⟩ := Jvm.LawKit.callS X58 hx (y := (⟨"com/example/osprey/osprey/transform/RepertoireHoldsPinLaw", "expected", "(II)Z"⟩ : MethodName)) hown (mvT hZ (hw _ (List.mem_of_getElem? (i := 27) rfl))) (mvT hZ (hw _ (List.mem_of_getElem? (i := 28) rfl))) (mvT hZ (hw _ (List.mem_of_getElem? (i := 29) rfl))) (mvT hZ (hw _ (List.mem_of_getElem? (i := 30) rfl))) (by decide) (backOf (W := 1) (rm2 l Z a0 hw [] (0 : Int32) c7  h34 n0 z35 ) hZ (hw _ (List.mem_of_getElem? (i := 30) rfl)) (hw _ (List.mem_of_getElem? (i := 29) rfl)) (by decide) (by decide)) (g := (mkF m 167 #[.val (.int p0), .val (.int p1), .val (.int p2), .val (.ref b1), .val (.ref b12), .val (.int (0 : Int32)), .val (.int (p1 &&& (3 : Int32))), .val (.int c7), .val (.int (hold s10 c7 sh s11))] [(.int c7), (.int (0 : Int32)), (.int (hold s10 c7 sh s11))])) rfl (by rw [hml]; rfl) (argsL := [(.int (0 : Int32)), (.int c7)]) (rest := [(.int (hold s10 c7 sh s11))]) (lenOf pd1 rfl) rfl (by show 2 * 0 + _ ≤ _; exact Nat.le_of_eq rfl) (hb hby at_167) (fun _ _ => ⟨rfl, e58, (by decide : 2 + 0 ≤ _), (by decide : 14 + 0 ≤ _)⟩)
        dsimp only [Pt.U, Pt.locs, Pt.cells, Pt.slots] at X59 l59 y59 z59 st59 hQ59
        subst l59 y59 z59
        obtain ⟨rfl, N59q, e59⟩ := hQ59
        have N59 := Fr.app N58 N59q
        refine Dn.by (U' := T59.setTop (mkF m 170 #[.val (.int p0), .val (.int p1), .val (.int p2), .val (.ref b1), .val (.ref b12), .val (.int (0 : Int32)), .val (.int (p1 &&& (3 : Int32))), .val (.int c7), .val (.int (hold s10 c7 sh s11))] [(.int (expd (0 : Int32) c7)), (.int (hold s10 c7 sh s11))])) st59 ?_
        refine Dn.by (U' := T59.setTop (mkF m 173 #[.val (.int p0), .val (.int p1), .val (.int p2), .val (.ref b1), .val (.ref b12), .val (.int (0 : Int32)), .val (.int (p1 &&& (3 : Int32))), .val (.int c7), .val (.int (hold s10 c7 sh s11))] [])) (fun _ k => XS.icmpNo X59.here hx rfl (hb hby at_170) rfl (teq (own_h0 _ _ _ _ ne0h ne01)).2 k) ?_
        refine Dn.by (U' := T59.setTop (mkF m 174 #[.val (.int p0), .val (.int p1), .val (.int p2), .val (.ref b1), .val (.ref b12), .val (.int (0 : Int32)), .val (.int (p1 &&& (3 : Int32))), .val (.int c7), .val (.int (hold s10 c7 sh s11))] [(.int (1 : Int32))])) (fun _ k => XS.iconst X59.here hx rfl (hb hby at_173)  k) ?_
        refine Dn.by (U' := T59.setTop (mkF m 178 #[.val (.int p0), .val (.int p1), .val (.int p2), .val (.ref b1), .val (.ref b12), .val (.int (0 : Int32)), .val (.int (p1 &&& (3 : Int32))), .val (.int c7), .val (.int (hold s10 c7 sh s11))] [(.int (1 : Int32))])) (fun _ k => XS.goto X59.here hx rfl (pc0 := 174) (pc' := 178) rfl (hb hby at_174) (by decide) (by decide) k) ?_
        refine Dn.out X59 (v := (some (.int (1 : Int32)))) (fun h => by rw [Bd.returns] at h; cases h) (BodyLoose.notSynchronized Bd) (fun _ hr => retN X59 hx (t := .boolean) Bd.returns (by simp) (hb hby at_178) hr) (by decide) (by decide) ?_
        rw [e59]
        exact ⟨rfl, N59⟩
      ·
        refine Dn.by (U' := T34.setTop (mkF m 151 #[.val (.int p0), .val (.int p1), .val (.int p2), .val (.ref b1), .val (.ref b12), .val (.int (1 : Int32)), .val (.int (p1 &&& (3 : Int32))), .val (.int c7), .val (.int ix)] [(.ref b1)])) (fun _ k => XS.aloadN X34.here hx rfl (hb hby at_150) rfl rfl k) ?_
        refine Dn.by (U' := T34.setTop (mkF m 153 #[.val (.int p0), .val (.int p1), .val (.int p2), .val (.ref b1), .val (.ref b12), .val (.int (1 : Int32)), .val (.int (p1 &&& (3 : Int32))), .val (.int c7), .val (.int ix)] [(.int (1 : Int32)), (.ref b1)])) (fun _ k => XS.iload X34.here hx rfl (hb hby at_151) rfl k) ?_
        obtain ⟨cl60, Ar60, q60, S60, M60, H60, G60⟩ := ((((((((((((V10b.ext E12).other W14 ne_b1_b12).other W16 ne_b1_b12).other W18 ne_b1_b12).other W20 ne_b1_b12).other W22 ne_b1_b12).other W24 ne_b1_b12).other W26 ne_b1_b12).other W28 ne_b1_b12).other W30 ne_b1_b12).other W32 ne_b1_b12).other W34 ne_b1_b12)
        have in60 := inb_of (j := (1 : Int32)) S60 ⟨by decide, by decide⟩
        have at60 : cl60.slots[(1 : Int32).toNatClampNeg]? = some (.ref s11) := H60.at in60 rfl
        refine Dn.by (U' := T34.setTop (mkF m 154 #[.val (.int p0), .val (.int p1), .val (.int p2), .val (.ref b1), .val (.ref b12), .val (.int (1 : Int32)), .val (.int (p1 &&& (3 : Int32))), .val (.int c7), .val (.int ix)] [(.ref s11)])) (X34.aaload hx (j := (1 : Int32)) (v := (.ref s11)) (by rw [e34]; exact Ar60.1) (State.isArrayOf_alike hZ.alike Ar60.2.1) rfl Ar60.2.2 in60 at60 (g := (mkF m 153 #[.val (.int p0), .val (.int p1), .val (.int p2), .val (.ref b1), .val (.ref b12), .val (.int (1 : Int32)), .val (.int (p1 &&& (3 : Int32))), .val (.int c7), .val (.int ix)] [(.int (1 : Int32)), (.ref b1)])) rfl rfl (hb hby at_153)) ?_
        refine Dn.by (U' := T34.setTop (mkF m 156 #[.val (.int p0), .val (.int p1), .val (.int p2), .val (.ref b1), .val (.ref b12), .val (.int (1 : Int32)), .val (.int (p1 &&& (3 : Int32))), .val (.int c7), .val (.int ix)] [(.int c7), (.ref s11)])) (fun _ k => XS.iload X34.here hx rfl (hb hby at_154) rfl k) ?_
        obtain ⟨cq61, kq61, qa61, qb61, qc61⟩ := isOf hZ e34 ((((((((((((((((E_s11.ext E1).wr W4).wr W7).wr W10).ext E12).wr W14).wr W16).wr W18).wr W20).wr W22).wr W24).wr W26).wr W28).wr W30).wr W32).wr W34)
        obtain ⟨_, _, ⟨T61, L61, k61, n61⟩, -, X61, ⟨Lc61, hQ61, l61, y61, z61⟩, st61⟩ := X34.virtualBack hx (y := (⟨"com/example/osprey/osprey/transform/Repertoire", "holds", "(I)Z"⟩ : MethodName)) (z := (⟨"com/example/osprey/osprey/transform/Repertoire", "holds", "(I)Z"⟩ : MethodName)) hown (mvT hZ (hw _ (List.mem_of_getElem? (i := 18) rfl))) (mvT hZ (hw _ (List.mem_of_getElem? (i := 19) rfl))) (notFace_of_selects (args := #[]) (mvT hZ (hw _ (List.mem_of_getElem? (i := 21) rfl)))) (mvT hZ (hw _ (List.mem_of_getElem? (i := 21) rfl))) (mvT hZ (hw _ (List.mem_of_getElem? (i := 20) rfl))) (by decide) (backOf (W := 0) (rm1 l Z a0 hw [] s11 c7 sh s11 h34 n0 z35 (S_sh.ext O35.2) (S_s11.ext O35.2)) hZ (hw _ (List.mem_of_getElem? (i := 22) rfl)) (hw _ (List.mem_of_getElem? (i := 3) rfl)) (by decide) (by decide)) qa61 qc61 (g := (mkF m 156 #[.val (.int p0), .val (.int p1), .val (.int p2), .val (.ref b1), .val (.ref b12), .val (.int (1 : Int32)), .val (.int (p1 &&& (3 : Int32))), .val (.int c7), .val (.int ix)] [(.int c7), (.ref s11)])) rfl (by rw [hml]; rfl) (Steps.refl _) (argsL := [(.int c7)]) (rest := []) (lenOf pd0 rfl) rfl (by show 2 * 0 + _ ≤ _; exact Nat.le_of_eq rfl) (hb hby at_156) (fun _ _ => ⟨rfl, e34, (by decide : 2 + 0 ≤ _), (by decide : 14 + 0 ≤ _)⟩)
        dsimp only [Pt.U, Pt.locs, Pt.cells, Pt.slots] at X61 l61 y61 z61 st61 hQ61
        subst l61 y61 z61
        obtain ⟨rfl, N61q, e61⟩ := hQ61
        have N61 := Fr.app N34 N61q
        refine Dn.by (U' := T61.setTop (mkF m 159 #[.val (.int p0), .val (.int p1), .val (.int p2), .val (.ref b1), .val (.ref b12), .val (.int (1 : Int32)), .val (.int (p1 &&& (3 : Int32))), .val (.int c7), .val (.int ix)] [(.int (hold s11 c7 sh s11))])) (fun _ k => st61.trans k) ?_
        refine Dn.by (U' := T61.setTop (mkF m 161 #[.val (.int p0), .val (.int p1), .val (.int p2), .val (.ref b1), .val (.ref b12), .val (.int (1 : Int32)), .val (.int (p1 &&& (3 : Int32))), .val (.int c7), .val (.int (hold s11 c7 sh s11))] [])) (fun _ k => XS.istore X61.here hx rfl (hb hby at_159) rfl (l' := #[.val (.int p0), .val (.int p1), .val (.int p2), .val (.ref b1), .val (.ref b12), .val (.int (1 : Int32)), .val (.int (p1 &&& (3 : Int32))), .val (.int c7), .val (.int (hold s11 c7 sh s11))]) rfl k) ?_
        refine Dn.by (U' := T61.setTop (mkF m 163 #[.val (.int p0), .val (.int p1), .val (.int p2), .val (.ref b1), .val (.ref b12), .val (.int (1 : Int32)), .val (.int (p1 &&& (3 : Int32))), .val (.int c7), .val (.int (hold s11 c7 sh s11))] [(.int (hold s11 c7 sh s11))])) (fun _ k => XS.iload X61.here hx rfl (hb hby at_161) rfl k) ?_
        refine Dn.by (U' := T61.setTop (mkF m 165 #[.val (.int p0), .val (.int p1), .val (.int p2), .val (.ref b1), .val (.ref b12), .val (.int (1 : Int32)), .val (.int (p1 &&& (3 : Int32))), .val (.int c7), .val (.int (hold s11 c7 sh s11))] [(.int (1 : Int32)), (.int (hold s11 c7 sh s11))])) (fun _ k => XS.iload X61.here hx rfl (hb hby at_163) rfl k) ?_
        refine Dn.by (U' := T61.setTop (mkF m 167 #[.val (.int p0), .val (.int p1), .val (.int p2), .val (.ref b1), .val (.ref b12), .val (.int (1 : Int32)), .val (.int (p1 &&& (3 : Int32))), .val (.int c7), .val (.int (hold s11 c7 sh s11))] [(.int c7), (.int (1 : Int32)), (.int (hold s11 c7 sh s11))])) (fun _ k => XS.iload X61.here hx rfl (hb hby at_165) rfl k) ?_
        obtain ⟨_, _, ⟨T62, L62, k62, n62⟩, -, X62, ⟨Lc62, hQ62, l62, y62, z62⟩, st62⟩ := Jvm.LawKit.callS X61 hx (y := (⟨"com/example/osprey/osprey/transform/RepertoireHoldsPinLaw", "expected", "(II)Z"⟩ : MethodName)) hown (mvT hZ (hw _ (List.mem_of_getElem? (i := 27) rfl))) (mvT hZ (hw _ (List.mem_of_getElem? (i := 28) rfl))) (mvT hZ (hw _ (List.mem_of_getElem? (i := 29) rfl))) (mvT hZ (hw _ (List.mem_of_getElem? (i := 30) rfl))) (by decide) (backOf (W := 1) (rm2 l Z a0 hw [] (1 : Int32) c7  h34 n0 z35 ) hZ (hw _ (List.mem_of_getElem? (i := 30) rfl)) (hw _ (List.mem_of_getElem? (i := 29) rfl)) (by decide) (by decide)) (g := (mkF m 167 #[.val (.int p0), .val (.int p1), .val (.int p2), .val (.ref b1), .val (.ref b12), .val (.int (1 : Int32)), .val (.int (p1 &&& (3 : Int32))), .val (.int c7), .val (.int (hold s11 c7 sh s11))] [(.int c7), (.int (1 : Int32)), (.int (hold s11 c7 sh s11))])) rfl (by rw [hml]; rfl) (argsL := [(.int (1 : Int32)), (.int c7)]) (rest := [(.int (hold s11 c7 sh s11))]) (lenOf pd1 rfl) rfl (by show 2 * 0 + _ ≤ _; exact Nat.le_of_eq rfl) (hb hby at_167) (fun _ _ => ⟨rfl, e61, (by decide : 2 + 0 ≤ _), (by decide : 14 + 0 ≤ _)⟩)
        dsimp only [Pt.U, Pt.locs, Pt.cells, Pt.slots] at X62 l62 y62 z62 st62 hQ62
        subst l62 y62 z62
        obtain ⟨rfl, N62q, e62⟩ := hQ62
        have N62 := Fr.app N61 N62q
        refine Dn.by (U' := T62.setTop (mkF m 170 #[.val (.int p0), .val (.int p1), .val (.int p2), .val (.ref b1), .val (.ref b12), .val (.int (1 : Int32)), .val (.int (p1 &&& (3 : Int32))), .val (.int c7), .val (.int (hold s11 c7 sh s11))] [(.int (expd (1 : Int32) c7)), (.int (hold s11 c7 sh s11))])) st62 ?_
        refine Dn.by (U' := T62.setTop (mkF m 173 #[.val (.int p0), .val (.int p1), .val (.int p2), .val (.ref b1), .val (.ref b12), .val (.int (1 : Int32)), .val (.int (p1 &&& (3 : Int32))), .val (.int c7), .val (.int (hold s11 c7 sh s11))] [])) (fun _ k => XS.icmpNo X62.here hx rfl (hb hby at_170) rfl (teq (own_h1 _ _ _ ne1h)).2 k) ?_
        refine Dn.by (U' := T62.setTop (mkF m 174 #[.val (.int p0), .val (.int p1), .val (.int p2), .val (.ref b1), .val (.ref b12), .val (.int (1 : Int32)), .val (.int (p1 &&& (3 : Int32))), .val (.int c7), .val (.int (hold s11 c7 sh s11))] [(.int (1 : Int32))])) (fun _ k => XS.iconst X62.here hx rfl (hb hby at_173)  k) ?_
        refine Dn.by (U' := T62.setTop (mkF m 178 #[.val (.int p0), .val (.int p1), .val (.int p2), .val (.ref b1), .val (.ref b12), .val (.int (1 : Int32)), .val (.int (p1 &&& (3 : Int32))), .val (.int c7), .val (.int (hold s11 c7 sh s11))] [(.int (1 : Int32))])) (fun _ k => XS.goto X62.here hx rfl (pc0 := 174) (pc' := 178) rfl (hb hby at_174) (by decide) (by decide) k) ?_
        refine Dn.out X62 (v := (some (.int (1 : Int32)))) (fun h => by rw [Bd.returns] at h; cases h) (BodyLoose.notSynchronized Bd) (fun _ hr => retN X62 hx (t := .boolean) Bd.returns (by simp) (hb hby at_178) hr) (by decide) (by decide) ?_
        rw [e62]
        exact ⟨rfl, N62⟩
      ·
        refine Dn.by (U' := T34.setTop (mkF m 151 #[.val (.int p0), .val (.int p1), .val (.int p2), .val (.ref b1), .val (.ref b12), .val (.int (2 : Int32)), .val (.int (p1 &&& (3 : Int32))), .val (.int c7), .val (.int ix)] [(.ref b1)])) (fun _ k => XS.aloadN X34.here hx rfl (hb hby at_150) rfl rfl k) ?_
        refine Dn.by (U' := T34.setTop (mkF m 153 #[.val (.int p0), .val (.int p1), .val (.int p2), .val (.ref b1), .val (.ref b12), .val (.int (2 : Int32)), .val (.int (p1 &&& (3 : Int32))), .val (.int c7), .val (.int ix)] [(.int (2 : Int32)), (.ref b1)])) (fun _ k => XS.iload X34.here hx rfl (hb hby at_151) rfl k) ?_
        obtain ⟨cl63, Ar63, q63, S63, M63, H63, G63⟩ := ((((((((((((V10b.ext E12).other W14 ne_b1_b12).other W16 ne_b1_b12).other W18 ne_b1_b12).other W20 ne_b1_b12).other W22 ne_b1_b12).other W24 ne_b1_b12).other W26 ne_b1_b12).other W28 ne_b1_b12).other W30 ne_b1_b12).other W32 ne_b1_b12).other W34 ne_b1_b12)
        have in63 := inb_of (j := (2 : Int32)) S63 ⟨by decide, by decide⟩
        have at63 : cl63.slots[(2 : Int32).toNatClampNeg]? = some (.ref sh) := H63.at in63 rfl
        refine Dn.by (U' := T34.setTop (mkF m 154 #[.val (.int p0), .val (.int p1), .val (.int p2), .val (.ref b1), .val (.ref b12), .val (.int (2 : Int32)), .val (.int (p1 &&& (3 : Int32))), .val (.int c7), .val (.int ix)] [(.ref sh)])) (X34.aaload hx (j := (2 : Int32)) (v := (.ref sh)) (by rw [e34]; exact Ar63.1) (State.isArrayOf_alike hZ.alike Ar63.2.1) rfl Ar63.2.2 in63 at63 (g := (mkF m 153 #[.val (.int p0), .val (.int p1), .val (.int p2), .val (.ref b1), .val (.ref b12), .val (.int (2 : Int32)), .val (.int (p1 &&& (3 : Int32))), .val (.int c7), .val (.int ix)] [(.int (2 : Int32)), (.ref b1)])) rfl rfl (hb hby at_153)) ?_
        refine Dn.by (U' := T34.setTop (mkF m 156 #[.val (.int p0), .val (.int p1), .val (.int p2), .val (.ref b1), .val (.ref b12), .val (.int (2 : Int32)), .val (.int (p1 &&& (3 : Int32))), .val (.int c7), .val (.int ix)] [(.int c7), (.ref sh)])) (fun _ k => XS.iload X34.here hx rfl (hb hby at_154) rfl k) ?_
        obtain ⟨cq64, kq64, qa64, qb64, qc64⟩ := isOf hZ e34 ((((((((((((((((E_sh.ext E1).wr W4).wr W7).wr W10).ext E12).wr W14).wr W16).wr W18).wr W20).wr W22).wr W24).wr W26).wr W28).wr W30).wr W32).wr W34)
        obtain ⟨_, _, ⟨T64, L64, k64, n64⟩, -, X64, ⟨Lc64, hQ64, l64, y64, z64⟩, st64⟩ := X34.virtualBack hx (y := (⟨"com/example/osprey/osprey/transform/Repertoire", "holds", "(I)Z"⟩ : MethodName)) (z := (⟨"com/example/osprey/osprey/transform/Repertoire", "holds", "(I)Z"⟩ : MethodName)) hown (mvT hZ (hw _ (List.mem_of_getElem? (i := 18) rfl))) (mvT hZ (hw _ (List.mem_of_getElem? (i := 19) rfl))) (notFace_of_selects (args := #[]) (mvT hZ (hw _ (List.mem_of_getElem? (i := 21) rfl)))) (mvT hZ (hw _ (List.mem_of_getElem? (i := 21) rfl))) (mvT hZ (hw _ (List.mem_of_getElem? (i := 20) rfl))) (by decide) (backOf (W := 0) (rm1 l Z a0 hw [] sh c7 sh s11 h34 n0 z35 (S_sh.ext O35.2) (S_s11.ext O35.2)) hZ (hw _ (List.mem_of_getElem? (i := 22) rfl)) (hw _ (List.mem_of_getElem? (i := 3) rfl)) (by decide) (by decide)) qa64 qc64 (g := (mkF m 156 #[.val (.int p0), .val (.int p1), .val (.int p2), .val (.ref b1), .val (.ref b12), .val (.int (2 : Int32)), .val (.int (p1 &&& (3 : Int32))), .val (.int c7), .val (.int ix)] [(.int c7), (.ref sh)])) rfl (by rw [hml]; rfl) (Steps.refl _) (argsL := [(.int c7)]) (rest := []) (lenOf pd0 rfl) rfl (by show 2 * 0 + _ ≤ _; exact Nat.le_of_eq rfl) (hb hby at_156) (fun _ _ => ⟨rfl, e34, (by decide : 2 + 0 ≤ _), (by decide : 14 + 0 ≤ _)⟩)
        dsimp only [Pt.U, Pt.locs, Pt.cells, Pt.slots] at X64 l64 y64 z64 st64 hQ64
        subst l64 y64 z64
        obtain ⟨rfl, N64q, e64⟩ := hQ64
        have N64 := Fr.app N34 N64q
        refine Dn.by (U' := T64.setTop (mkF m 159 #[.val (.int p0), .val (.int p1), .val (.int p2), .val (.ref b1), .val (.ref b12), .val (.int (2 : Int32)), .val (.int (p1 &&& (3 : Int32))), .val (.int c7), .val (.int ix)] [(.int (hold sh c7 sh s11))])) (fun _ k => st64.trans k) ?_
        refine Dn.by (U' := T64.setTop (mkF m 161 #[.val (.int p0), .val (.int p1), .val (.int p2), .val (.ref b1), .val (.ref b12), .val (.int (2 : Int32)), .val (.int (p1 &&& (3 : Int32))), .val (.int c7), .val (.int (hold sh c7 sh s11))] [])) (fun _ k => XS.istore X64.here hx rfl (hb hby at_159) rfl (l' := #[.val (.int p0), .val (.int p1), .val (.int p2), .val (.ref b1), .val (.ref b12), .val (.int (2 : Int32)), .val (.int (p1 &&& (3 : Int32))), .val (.int c7), .val (.int (hold sh c7 sh s11))]) rfl k) ?_
        refine Dn.by (U' := T64.setTop (mkF m 163 #[.val (.int p0), .val (.int p1), .val (.int p2), .val (.ref b1), .val (.ref b12), .val (.int (2 : Int32)), .val (.int (p1 &&& (3 : Int32))), .val (.int c7), .val (.int (hold sh c7 sh s11))] [(.int (hold sh c7 sh s11))])) (fun _ k => XS.iload X64.here hx rfl (hb hby at_161) rfl k) ?_
        refine Dn.by (U' := T64.setTop (mkF m 165 #[.val (.int p0), .val (.int p1), .val (.int p2), .val (.ref b1), .val (.ref b12), .val (.int (2 : Int32)), .val (.int (p1 &&& (3 : Int32))), .val (.int c7), .val (.int (hold sh c7 sh s11))] [(.int (2 : Int32)), (.int (hold sh c7 sh s11))])) (fun _ k => XS.iload X64.here hx rfl (hb hby at_163) rfl k) ?_
        refine Dn.by (U' := T64.setTop (mkF m 167 #[.val (.int p0), .val (.int p1), .val (.int p2), .val (.ref b1), .val (.ref b12), .val (.int (2 : Int32)), .val (.int (p1 &&& (3 : Int32))), .val (.int c7), .val (.int (hold sh c7 sh s11))] [(.int c7), (.int (2 : Int32)), (.int (hold sh c7 sh s11))])) (fun _ k => XS.iload X64.here hx rfl (hb hby at_165) rfl k) ?_
        obtain ⟨_, _, ⟨T65, L65, k65, n65⟩, -, X65, ⟨Lc65, hQ65, l65, y65, z65⟩, st65⟩ := Jvm.LawKit.callS X64 hx (y := (⟨"com/example/osprey/osprey/transform/RepertoireHoldsPinLaw", "expected", "(II)Z"⟩ : MethodName)) hown (mvT hZ (hw _ (List.mem_of_getElem? (i := 27) rfl))) (mvT hZ (hw _ (List.mem_of_getElem? (i := 28) rfl))) (mvT hZ (hw _ (List.mem_of_getElem? (i := 29) rfl))) (mvT hZ (hw _ (List.mem_of_getElem? (i := 30) rfl))) (by decide) (backOf (W := 1) (rm2 l Z a0 hw [] (2 : Int32) c7  h34 n0 z35 ) hZ (hw _ (List.mem_of_getElem? (i := 30) rfl)) (hw _ (List.mem_of_getElem? (i := 29) rfl)) (by decide) (by decide)) (g := (mkF m 167 #[.val (.int p0), .val (.int p1), .val (.int p2), .val (.ref b1), .val (.ref b12), .val (.int (2 : Int32)), .val (.int (p1 &&& (3 : Int32))), .val (.int c7), .val (.int (hold sh c7 sh s11))] [(.int c7), (.int (2 : Int32)), (.int (hold sh c7 sh s11))])) rfl (by rw [hml]; rfl) (argsL := [(.int (2 : Int32)), (.int c7)]) (rest := [(.int (hold sh c7 sh s11))]) (lenOf pd1 rfl) rfl (by show 2 * 0 + _ ≤ _; exact Nat.le_of_eq rfl) (hb hby at_167) (fun _ _ => ⟨rfl, e64, (by decide : 2 + 0 ≤ _), (by decide : 14 + 0 ≤ _)⟩)
        dsimp only [Pt.U, Pt.locs, Pt.cells, Pt.slots] at X65 l65 y65 z65 st65 hQ65
        subst l65 y65 z65
        obtain ⟨rfl, N65q, e65⟩ := hQ65
        have N65 := Fr.app N64 N65q
        refine Dn.by (U' := T65.setTop (mkF m 170 #[.val (.int p0), .val (.int p1), .val (.int p2), .val (.ref b1), .val (.ref b12), .val (.int (2 : Int32)), .val (.int (p1 &&& (3 : Int32))), .val (.int c7), .val (.int (hold sh c7 sh s11))] [(.int (expd (2 : Int32) c7)), (.int (hold sh c7 sh s11))])) st65 ?_
        refine Dn.by (U' := T65.setTop (mkF m 173 #[.val (.int p0), .val (.int p1), .val (.int p2), .val (.ref b1), .val (.ref b12), .val (.int (2 : Int32)), .val (.int (p1 &&& (3 : Int32))), .val (.int c7), .val (.int (hold sh c7 sh s11))] [])) (fun _ k => XS.icmpNo X65.here hx rfl (hb hby at_170) rfl (teq (own_h2 _ _ _)).2 k) ?_
        refine Dn.by (U' := T65.setTop (mkF m 174 #[.val (.int p0), .val (.int p1), .val (.int p2), .val (.ref b1), .val (.ref b12), .val (.int (2 : Int32)), .val (.int (p1 &&& (3 : Int32))), .val (.int c7), .val (.int (hold sh c7 sh s11))] [(.int (1 : Int32))])) (fun _ k => XS.iconst X65.here hx rfl (hb hby at_173)  k) ?_
        refine Dn.by (U' := T65.setTop (mkF m 178 #[.val (.int p0), .val (.int p1), .val (.int p2), .val (.ref b1), .val (.ref b12), .val (.int (2 : Int32)), .val (.int (p1 &&& (3 : Int32))), .val (.int c7), .val (.int (hold sh c7 sh s11))] [(.int (1 : Int32))])) (fun _ k => XS.goto X65.here hx rfl (pc0 := 174) (pc' := 178) rfl (hb hby at_174) (by decide) (by decide) k) ?_
        refine Dn.out X65 (v := (some (.int (1 : Int32)))) (fun h => by rw [Bd.returns] at h; cases h) (BodyLoose.notSynchronized Bd) (fun _ hr => retN X65 hx (t := .boolean) Bd.returns (by simp) (hb hby at_178) hr) (by decide) (by decide) ?_
        rw [e65]
        exact ⟨rfl, N65⟩
set_option maxRecDepth 65536 in
set_option maxHeartbeats 40000000 in
theorem comes_1 {Post : Tables → Env → Array Value → State → Outcome → State → Prop} (hpost : ∀ tb e args s v u, (limb_1_1.after args s (.returned v) u = true ∧ limb_1_2.after args s (.returned v) u = true ∧ True) → FrameEnd s (.returned v) u (Jvm.fieldLocs frame_1_writes args s ++ Jvm.arrayLocs frame_1_arrays args s ++ Jvm.staticLocs frame_1_statics s) 16 128 → Post tb e args s (.returned v) u) :
    ArmFor flags0 classFile x code maxLocals ret World_1 tables_1 room_1 Calls_1 rest_1 Pre_1 Post := by
  intro l hfl _ _ p e ha hc hk s m args below hf hA hF happ hP
  obtain ⟨hcalls, hrest, hpre⟩ := hP
  obtain ⟨-, -, -, hnamed, -, -, -, hat⟩ := (Spec.applies_iff hf).mp happ
  obtain ⟨hg, hn⟩ := and_e (Cond.before_iff.mp (show (Jvm.Cond.and given_1 narrow_1).before args s = true from hpre))
  obtain ⟨gg1, gg2⟩ := and_e hg
  obtain ⟨gg3, gg4⟩ := and_e gg2
  obtain ⟨gg5, gg6⟩ := and_e gg4
  obtain ⟨w0, w1, w2, rfl⟩ : ∃ w0 w1 w2 : Value, args = #[w0, w1, w2] := by
    have hs : args.size = 3 := by simpa [Cond.value, given_1] using gg1
    obtain ⟨L⟩ := args
    match L, hs with
    | [w0, w1, w2], _ => exact ⟨w0, w1, w2, rfl⟩
  have hw := fun d (hd : d ∈ tables_1) => atoms_spec (ws := Jvm.Cond.code x code maxLocals ret :: tables_1) hat d (List.mem_cons_of_mem _ hd)
  have hfit : Fit s := fun {y c} hc i hi => by
    obtain ⟨ha, rfl⟩ := Array.getElem?_eq_some_iff.mp hc
    have q := List.all_eq_true.mp ((Array.all_eq_true_iff_forall_mem.mp hF) _ (Array.getElem_mem ha)) i (List.mem_range.mpr hi)
    simpa [Array.getElem?_eq_getElem hi] using q
  obtain ⟨i0, ei0⟩ := is_v gg3
  obtain rfl : w0 = (.int i0) := Option.some.inj ei0
  obtain ⟨i1, ei1⟩ := is_v gg5
  obtain rfl : w1 = (.int i1) := Option.some.inj ei1
  obtain ⟨i2, ei2⟩ := is_v gg6
  obtain rfl : w2 = (.int i2) := Option.some.inj ei2
  obtain ⟨x1, hn⟩ := and_e hn
  obtain ⟨x2, hn⟩ := and_e hn
  obtain ⟨x3, hn⟩ := and_e hn
  obtain ⟨x4, hn⟩ := and_e hn
  obtain ⟨x5, x6⟩ := and_e hn
  obtain ⟨s10, ev_s10⟩ := exa_v x1
  have E_s10 := Exa.start ev_s10 x1
  have S_s10 := Sta.start ev_s10 (Or.inr ⟨(hw _ (List.mem_of_getElem? (i := 3) rfl)), (hw _ (List.mem_of_getElem? (i := 4) rfl))⟩)
  have F_s10 := Fld.start ((fld_at ev_s10).symm.trans (eqv_i (Term.int_eval (0)) x4))
  obtain ⟨s11, ev_s11⟩ := exa_v x2
  have E_s11 := Exa.start ev_s11 x2
  have S_s11 := Sta.start ev_s11 (Or.inr ⟨(hw _ (List.mem_of_getElem? (i := 3) rfl)), (hw _ (List.mem_of_getElem? (i := 7) rfl))⟩)
  have F_s11 := Fld.start ((fld_at ev_s11).symm.trans (eqv_i (Term.int_eval (1)) x6))
  obtain ⟨sh, ev_sh⟩ := exa_v x3
  have E_sh := Exa.start ev_sh x3
  have S_sh := Sta.start ev_sh (Or.inr ⟨(hw _ (List.mem_of_getElem? (i := 3) rfl)), (hw _ (List.mem_of_getElem? (i := 9) rfl))⟩)
  have F_sh := Fld.start ((fld_at ev_sh).symm.trans (eqv_i (Term.int_eval (2)) x5))
  obtain ⟨n, o, h1, h2, h3, _, L, rfl, ⟨rfl, N⟩, hq⟩ := rm0 l s _ hw tables_1 i0 i1 i2 s10 s11 sh s.heap s.heap.size (Nat.le_refl _) S_s10 E_s10 S_s11 E_s11 S_sh E_sh (Fld.ne F_s10 F_s11 (by decide)) (Fld.ne F_s10 F_sh (by decide)) (Fld.ne F_s11 F_sh (by decide)) (Old.start s) p e ha hc hk s m _ below hf ((Spec.applies_iff_loose hf).mp happ).1 ⟨rfl, State.Warmed39.refl s, rfl⟩ trivial
  refine ⟨n, _, h1, h2, h3, hpost _ _ _ _ _ _ ⟨Cond.after_iff.mpr rfl, Cond.after_iff.mpr (eq_i res_at (Term.int_eval (1)) rfl), trivial⟩ ⟨hq.1, hq.2.1, (hq.2.2.sift fun y hy => Or.inr (N y hy)).mono (by decide) (by decide)⟩⟩
theorem main_1_1 : Claimed_1_1 := comes_1 fun _ _ _ _ _ _ h hF => ⟨h.1, hF⟩
theorem main_1_2 : Claimed_1_2 := comes_1 fun _ _ _ _ _ _ h hF => ⟨h.2.1, hF⟩
end Jvm.Pilot.@@N@@
namespace Jvm.Pilot.@@N@@
open Jvm Jvm.ClassFile Sem Op Lib Jvm.Free Jvm.Stand Jvm.Pilot.@@N@@.Jvm.D
/-! MADE BY PROGRAM (witnessworld.py) out of the Statement's table words and the real class files: 13 classes; the members and pool entries that the words name. The judged class is class 1, her method 2. -/
namespace start1
open Jvm.ClassFile
def u (s : String) : CpInfo := .utf8 (stringToUtf16 s)
/-- a pool by its gaps: so many unusable entries, then the entry; so many at the end -/
def gap : Nat → List CpInfo → List CpInfo
  | 0, r => r
  | n + 1, r => .unusable :: gap n r
def poolList (es : List (Nat × CpInfo)) (last : Nat) : List CpInfo := es.foldr (fun e r => gap e.1 (e.2 :: r)) (gap last [])
def pool (es : List (Nat × CpInfo)) (last : Nat) : Array CpInfo := ⟨poolList es last⟩
def fileOf (pool : Array CpInfo) (this : Nat) (attrs : Array Attribute := #[]) (ms : Array MethodInfo := #[]) (fl : Nat := 33) (sup : Nat := 0) (ifs : Array Nat := #[]) (fds : Array FieldInfo := #[]) : ClassFile where
  minorVersion := 0
  majorVersion := 65
  constantPool := pool
  accessFlags := fl
  thisClass := this
  superClass := sup
  interfaces := ifs
  fields := fds
  methods := ms
  attributes := attrs
def plain (name : String) (sup : Option ClassId) : Class where
  name := name
  kind := .ordinary
  loader := none
  accessFlags := 33
  super := sup
  interfaces := #[]
  cf := none
  fields := #[]
  methods := #[]
  instanceTypes := #[]
  staticTypes := #[]
  resolved := #[]
  callSites := []
  init := .initialized
  statics := none
  mirror := none

def pool0 : Array CpInfo := pool [(5, u "<init>"), (0, u "()V"), (1, .class_ 10), (1, u "java/lang/Object")] 113

def k0m0 : Method := { name := "<init>", desc := "()V", sig := { parameters := [], returnType := none }, accessFlags := 1, code := none }
/-- java/lang/Object -/
def k0 : Class := { plain "java/lang/Object" none with
  accessFlags := 33
  interfaces := #[]
  cf := some (fileOf pool0 8 #[] #[{ accessFlags := 1, nameIndex := 5, descriptorIndex := 6, attributes := #[] }] 33 0 #[] #[])
  fields := #[]
  methods := #[k0m0]
  instanceTypes := #[]
  staticTypes := #[]
  resolved := Array.replicate 124 none
  statics := none }

def pool1 : Array CpInfo := pool [(2, .class_ 4), (1, u "java/lang/Object"), (0, u "<init>"), (0, u "()V"), (0, .integer 55296), (0, .integer 57344), (0, .integer 65534), (0, .integer 65536), (0, .integer 1114111), (0, .class_ 13), (0, u "com/example/osprey/osprey/transform/Repertoire"), (0, .fieldref 12 15), (0, .nameAndType 16 17), (0, u "XML_1_0"), (0, u "Lcom/example/osprey/osprey/transform/Repertoire;"), (0, .fieldref 12 19), (0, .nameAndType 20 17), (0, u "XML_1_1"), (0, .fieldref 12 22), (0, .nameAndType 23 17), (0, u "HTML"), (0, .integer 1114112), (0, .integer 2147483647), (0, .integer 2147483648), (0, .integer 2097151), (0, .methodref 12 29), (0, .nameAndType 30 31), (0, u "holds"), (0, u "(I)Z"), (0, .methodref 33 34), (0, .class_ 35), (0, .nameAndType 36 37), (0, u "com/example/osprey/osprey/transform/RepertoireHoldsPinLaw"), (0, u "expected"), (0, u "(II)Z"), (3, u "law"), (0, u "(III)Z")] 6

def k1m0 : Method := { name := "<init>", desc := "()V", sig := { parameters := [], returnType := none }, accessFlags := 2, code := none }
def k1c1 : Code := { maxStack := 2, maxLocals := 2, code := method_2_code, exceptionTable := #[], attributes := #[] }
def k1m1 : Method := { name := "expected", desc := "(II)Z", sig := { parameters := [.int, .int], returnType := some .boolean }, accessFlags := 10, code := some k1c1 }
def k1c2 : Code := { maxStack := 4, maxLocals := 9, code := code, exceptionTable := #[], attributes := #[] }
def k1m2 : Method := { name := "law", desc := "(III)Z", sig := { parameters := [.int, .int, .int], returnType := some .boolean }, accessFlags := 9, code := some k1c2 }
/-- com/example/osprey/osprey/transform/RepertoireHoldsPinLaw -/
def k1 : Class := { plain "com/example/osprey/osprey/transform/RepertoireHoldsPinLaw" (some 0) with
  accessFlags := 49
  interfaces := #[]
  cf := some (fileOf pool1 33 #[] #[{ accessFlags := 2, nameIndex := 5, descriptorIndex := 6, attributes := #[] }, { accessFlags := 10, nameIndex := 36, descriptorIndex := 37, attributes := #[] }, { accessFlags := 9, nameIndex := 41, descriptorIndex := 42, attributes := #[] }] 49 2 #[] #[])
  fields := #[]
  methods := #[k1m0, k1m1, k1m2]
  instanceTypes := #[]
  staticTypes := #[]
  resolved := Array.replicate 49 none
  statics := none }

def pool2 : Array CpInfo := pool [(1, .class_ 2), (0, u "java/lang/constant/Constable"), (0, .class_ 4), (0, u "java/lang/Object")] 6

/-- java/lang/constant/Constable -/
def k2 : Class := { plain "java/lang/constant/Constable" (some 0) with
  accessFlags := 1537
  interfaces := #[]
  cf := some (fileOf pool2 1 #[] #[] 1537 3 #[] #[])
  fields := #[]
  methods := #[]
  instanceTypes := #[]
  staticTypes := #[]
  resolved := Array.replicate 11 none
  statics := none }

def pool3 : Array CpInfo := pool [(1, .class_ 2), (0, u "java/lang/Comparable"), (0, .class_ 4), (0, u "java/lang/Object")] 7

/-- java/lang/Comparable -/
def k3 : Class := { plain "java/lang/Comparable" (some 0) with
  accessFlags := 1537
  interfaces := #[]
  cf := some (fileOf pool3 1 #[] #[] 1537 3 #[] #[])
  fields := #[]
  methods := #[]
  instanceTypes := #[]
  staticTypes := #[]
  resolved := Array.replicate 12 none
  statics := none }

def pool4 : Array CpInfo := pool [(1, .class_ 2), (0, u "java/io/Serializable"), (0, .class_ 4), (0, u "java/lang/Object")] 2

/-- java/io/Serializable -/
def k4 : Class := { plain "java/io/Serializable" (some 0) with
  accessFlags := 1537
  interfaces := #[]
  cf := some (fileOf pool4 1 #[] #[] 1537 3 #[] #[])
  fields := #[]
  methods := #[]
  instanceTypes := #[]
  staticTypes := #[]
  resolved := Array.replicate 7 none
  statics := none }

def pool5 : Array CpInfo := pool [(2, .class_ 4), (1, u "java/lang/Enum"), (0, u "name"), (0, u "Ljava/lang/String;"), (2, u "ordinal"), (0, u "I"), (1, .class_ 14), (1, u "java/lang/Object"), (4, u "hash"), (86, .class_ 108), (1, u "java/lang/Enum$EnumDesc"), (2, .class_ 112), (0, u "java/lang/constant/Constable"), (0, .class_ 114), (0, u "java/lang/Comparable"), (0, .class_ 116), (0, u "java/io/Serializable")] 87

/-- java/lang/Enum -/
def k5 : Class := { plain "java/lang/Enum" (some 0) with
  accessFlags := 1057
  interfaces := #[2, 3, 4]
  cf := some (fileOf pool5 2 #[.nestMembers #[106]] #[] 1057 12 #[111, 113, 115] #[{ accessFlags := 18, nameIndex := 5, descriptorIndex := 6, attributes := #[] }, { accessFlags := 18, nameIndex := 9, descriptorIndex := 10, attributes := #[] }, { accessFlags := 2, nameIndex := 19, descriptorIndex := 10, attributes := #[] }])
  fields := #[{ name := "name", type := (.object "java/lang/String"), accessFlags := 18, slot := 0, constantValue := 0 }, { name := "ordinal", type := .int, accessFlags := 18, slot := 1, constantValue := 0 }, { name := "hash", type := .int, accessFlags := 2, slot := 2, constantValue := 0 }]
  methods := #[]
  instanceTypes := #[(.object "java/lang/String"), .int, .int]
  staticTypes := #[]
  resolved := Array.replicate 204 none
  statics := none }

def pool6 : Array CpInfo := pool [(1, .class_ 2), (0, u "com/example/osprey/osprey/transform/Repertoire"), (2, u "XML_1_0"), (0, u "Lcom/example/osprey/osprey/transform/Repertoire;"), (0, .fieldref 1 8), (0, .nameAndType 9 6), (0, u "XML_1_1"), (0, .fieldref 1 11), (0, .nameAndType 12 6), (0, u "HTML"), (2, u "$VALUES"), (0, u "[Lcom/example/osprey/osprey/transform/Repertoire;"), (6, .class_ 25), (1, u "java/lang/Enum"), (8, u "version"), (0, u "Ljava/lang/String;"), (2, u "title"), (14, .integer 55295), (0, .integer 57344), (0, .integer 65533), (0, .integer 65536), (2, .integer 1114111), (6, u "holds"), (0, u "(I)Z"), (22, u "NEXT_LINE"), (0, u "I"), (2, u "LINE_SEPARATOR")] 18

def k6c0 : Code := { maxStack := 2, maxLocals := 4, code := prog_103_method_6_code, exceptionTable := #[], attributes := #[] }
def k6m0 : Method := { name := "holds", desc := "(I)Z", sig := { parameters := [.int], returnType := some .boolean }, accessFlags := 0, code := some k6c0 }
/-- com/example/osprey/osprey/transform/Repertoire -/
def k6 : Class := { plain "com/example/osprey/osprey/transform/Repertoire" (some 5) with
  accessFlags := 16432
  interfaces := #[]
  cf := some (fileOf pool6 1 #[] #[{ accessFlags := 0, nameIndex := 66, descriptorIndex := 67, attributes := #[] }] 16432 23 #[] #[{ accessFlags := 16409, nameIndex := 5, descriptorIndex := 6, attributes := #[] }, { accessFlags := 16409, nameIndex := 9, descriptorIndex := 6, attributes := #[] }, { accessFlags := 16409, nameIndex := 12, descriptorIndex := 6, attributes := #[] }, { accessFlags := 26, nameIndex := 90, descriptorIndex := 91, attributes := #[] }, { accessFlags := 26, nameIndex := 94, descriptorIndex := 91, attributes := #[] }, { accessFlags := 18, nameIndex := 34, descriptorIndex := 35, attributes := #[] }, { accessFlags := 18, nameIndex := 38, descriptorIndex := 35, attributes := #[] }, { accessFlags := 4122, nameIndex := 15, descriptorIndex := 16, attributes := #[] }])
  fields := #[{ name := "XML_1_0", type := (.object "com/example/osprey/osprey/transform/Repertoire"), accessFlags := 16409, slot := 0, constantValue := 0 }, { name := "XML_1_1", type := (.object "com/example/osprey/osprey/transform/Repertoire"), accessFlags := 16409, slot := 1, constantValue := 0 }, { name := "HTML", type := (.object "com/example/osprey/osprey/transform/Repertoire"), accessFlags := 16409, slot := 2, constantValue := 0 }, { name := "NEXT_LINE", type := .int, accessFlags := 26, slot := 3, constantValue := 0 }, { name := "LINE_SEPARATOR", type := .int, accessFlags := 26, slot := 4, constantValue := 0 }, { name := "version", type := (.object "java/lang/String"), accessFlags := 18, slot := 3, constantValue := 0 }, { name := "title", type := (.object "java/lang/String"), accessFlags := 18, slot := 4, constantValue := 0 }, { name := "$VALUES", type := (.array (.object "com/example/osprey/osprey/transform/Repertoire")), accessFlags := 4122, slot := 5, constantValue := 0 }]
  methods := #[k6m0]
  instanceTypes := #[(.object "java/lang/String"), .int, .int, (.object "java/lang/String"), (.object "java/lang/String")]
  staticTypes := #[(.object "com/example/osprey/osprey/transform/Repertoire"), (.object "com/example/osprey/osprey/transform/Repertoire"), (.object "com/example/osprey/osprey/transform/Repertoire"), .int, .int, (.array (.object "com/example/osprey/osprey/transform/Repertoire"))]
  resolved := Array.replicate 113 none
  statics := some 0 }

def pool7 : Array CpInfo := pool [(1, u "java/lang/Cloneable"), (0, .class_ 1), (0, u "java/lang/Object"), (0, .class_ 3)] 3

/-- java/lang/Cloneable -/
def k7 : Class := { plain "java/lang/Cloneable" (some 0) with
  accessFlags := 1537
  interfaces := #[]
  cf := some (fileOf pool7 2 #[] #[] 1537 4 #[] #[])
  fields := #[]
  methods := #[]
  instanceTypes := #[]
  staticTypes := #[]
  resolved := Array.replicate 8 none
  statics := none }

/-- the primitive byte -/
def k8 : Class := { plain "byte" none with kind := .primitive 'B', accessFlags := 0x411 }
/-- [B -/
def k9 : Class := { plain "[B" (some 0) with kind := .array 8 .byte, interfaces := #[7, 4], accessFlags := 1041 }

/-- the primitive int -/
def k10 : Class := { plain "int" none with kind := .primitive 'I', accessFlags := 0x411 }
/-- [I -/
def k11 : Class := { plain "[I" (some 0) with kind := .array 10 .int, interfaces := #[7, 4], accessFlags := 1041 }

/-- [Lcom/example/osprey/osprey/transform/Repertoire; -/
def k12 : Class := { plain "[Lcom/example/osprey/osprey/transform/Repertoire;" (some 0) with kind := .array 6 (.object "com/example/osprey/osprey/transform/Repertoire"), interfaces := #[7, 4], accessFlags := 1041 }

def heap : Heap := #[{ cls := 6, slots := #[.ref 1, .ref 2, .ref 3, .int 0, .int 0, .null], vm := .statics 6 },
  { cls := 6, slots := #[.null, .int 0, .int 0, .null, .null], vm := .none },
  { cls := 6, slots := #[.null, .int 1, .int 0, .null, .null], vm := .none },
  { cls := 6, slots := #[.null, .int 2, .int 0, .null, .null], vm := .none }]
def classes : Array Class := #[k0, k1, k2, k3, k4, k5, k6, k7, k8, k9, k10, k11, k12]
def interned : List (Array UInt16 × Addr) := []
def slotsUsed : Nat := 21
def theMethod : MethodId := ⟨1, 2⟩
def args0 : Array Value := #[.int 5, .int 1, .int 7]
def aboutOver (below : List Frame) : State where
  vm := { classes := classes, interned := interned.toArray }
  heap := heap
  slotsUsed := slotsUsed
  threads := #[{ frames := .invoking theMethod args0 :: below }]
def below0 : List Frame := [.native { method := ⟨0, 0⟩, args := #[] }]
def about1 : State := aboutOver below0
def p0 : Program := .bare "" "" ""
def e0 : Env := launch0.env 0 0 0
theorem w_frames : about1.frames = Frame.invoking theMethod args0 :: below0 := rfl
set_option maxRecDepth 65536 in
theorem w_args : argsFit about1.vm theMethod args0 = true := by decide +kernel
set_option maxRecDepth 65536 in
theorem w_heap : heapFits about1 = true := by decide +kernel
set_option maxRecDepth 65536 in
theorem w_runnable : about1.curStatus? = some .runnable := by decide +kernel
set_option maxRecDepth 65536 in
theorem w_alone : about1.alone = true := by decide +kernel
set_option maxRecDepth 65536 in
theorem w_named : about1.methodNamed? x = some theMethod := by decide +kernel
set_option maxRecDepth 65536 in
theorem w_hears : about1.hears theMethod below0 = true := by decide +kernel
set_option maxRecDepth 65536 in
theorem w_ripe : about1.ripe theMethod args0 below0 = true := by decide +kernel
theorem w_running : about1.status = .running := rfl
set_option maxRecDepth 65536 in
theorem w_room : about1.hasRoom e0.platform room_1 = true :=
  launch0.hasRoom_least _ room_1 (by decide +kernel) (by decide +kernel) (by decide +kernel) (by decide +kernel) (by decide +kernel) (by decide +kernel)
theorem allAtoms_all (ts : List Jvm.Cond) (a : Array Jvm.Value) (st : Jvm.State) : (allAtoms ts).before a st = ts.all (fun c => c.before a st) := by
  induction ts with
  | nil => rfl
  | cons c t ih =>
    show (Jvm.Cond.and c (allAtoms t)).before a st = _
    rw [Jvm.Cond.before_and, ih, List.all_cons]
def words1 : List Jvm.Cond := Jvm.Cond.code x code maxLocals ret :: tables_1
/-- a 'code' word, met by the world's own term for the bytes: nothing is compared byte by byte -/
theorem code_word {y : MethodName} {bytes : ByteArray} {mx : Nat} {rt : Option FieldType} {a : Array Value} {s : State} {m : MethodId} {meth : Method} {c : Code} (h1 : s.methodNamed? y = some m) (h2 : s.vm.method? m = some meth) (h3 : meth.code = some c) (h4 : c.code = bytes)
    (h5 : (c.maxLocals == mx && c.exceptionTable.isEmpty && decide (c.maxStack ≤ mostOperands) && decide (meth.sig.returnType = rt) && !meth.locks && decide (parseMethodDescriptor y.desc = some meth.sig)) = true) : (Jvm.Cond.code y bytes mx rt).before a s = true := by
  simp only [Bool.and_eq_true, beq_iff_eq, Bool.not_eq_true', decide_eq_true_eq] at h5
  obtain ⟨⟨⟨⟨⟨g1, g2⟩, g3⟩, g4⟩, g5⟩, g6⟩ := h5
  simp [Cond.before, Cond.holds, Cond.value, h1, h2, h3, h4, g1, g2, g3, g4, g5, g6]
def isCode : Jvm.Cond → Bool
  | .code _ _ _ _ => true
  | _ => false
theorem all_split {L : List Jvm.Cond} {P : Jvm.Cond → Bool} (h1 : L.all (fun c => isCode c || P c) = true) (h2 : ∀ c ∈ L.filter isCode, P c = true) : L.all P = true := by
  refine List.all_eq_true.mpr fun c hc => ?_
  have h := List.all_eq_true.mp h1 c hc
  rcases Bool.eq_false_or_eq_true (isCode c) with hi | hi
  · exact h2 c (List.mem_filter.mpr ⟨hc, hi⟩)
  · simpa [hi] using h
set_option maxRecDepth 65536 in
theorem w_c0 : (Jvm.Cond.code x code maxLocals ret).before args0 about1 = true := code_word (m := ⟨1, 2⟩) (meth := k1m2) (c := k1c2) (by decide +kernel) rfl rfl rfl (by decide +kernel)
set_option maxRecDepth 65536 in
theorem w_c1 : (Jvm.Cond.code ({ cls := "com/example/osprey/osprey/transform/Repertoire", name := "holds", desc := "(I)Z" } : Jvm.MethodName) prog_103_method_6_code (4 : Nat) (Option.some Jvm.ClassFile.FieldType.boolean)).before args0 about1 = true := code_word (m := ⟨6, 0⟩) (meth := k6m0) (c := k6c0) (by decide +kernel) rfl rfl rfl (by decide +kernel)
set_option maxRecDepth 65536 in
theorem w_c2 : (Jvm.Cond.code ({ cls := "com/example/osprey/osprey/transform/RepertoireHoldsPinLaw", name := "expected", desc := "(II)Z" } : Jvm.MethodName) method_2_code (2 : Nat) (Option.some Jvm.ClassFile.FieldType.boolean)).before args0 about1 = true := code_word (m := ⟨1, 1⟩) (meth := k1m1) (c := k1c1) (by decide +kernel) rfl rfl rfl (by decide +kernel)
def codes1 : List Jvm.Cond := [Jvm.Cond.code x code maxLocals ret, Jvm.Cond.code ({ cls := "com/example/osprey/osprey/transform/Repertoire", name := "holds", desc := "(I)Z" } : Jvm.MethodName) prog_103_method_6_code (4 : Nat) (Option.some Jvm.ClassFile.FieldType.boolean), Jvm.Cond.code ({ cls := "com/example/osprey/osprey/transform/RepertoireHoldsPinLaw", name := "expected", desc := "(II)Z" } : Jvm.MethodName) method_2_code (2 : Nat) (Option.some Jvm.ClassFile.FieldType.boolean)]
set_option maxRecDepth 65536 in
theorem codes_eq : words1.filter isCode = codes1 := rfl
theorem w_codes : ∀ c ∈ words1.filter isCode, c.before args0 about1 = true := by
  rw [codes_eq]
  intro c hc
  simp only [codes1, List.mem_cons, List.not_mem_nil, or_false] at hc
  rcases hc with rfl | rfl | rfl
  · exact w_c0
  · exact w_c1
  · exact w_c2
set_option maxRecDepth 65536 in
theorem w_t1 : (words1.take 24).all (fun c => isCode c || c.before args0 about1) = true := by decide +kernel
set_option maxRecDepth 65536 in
theorem w_t2 : (words1.drop 24).all (fun c => isCode c || c.before args0 about1) = true := by decide +kernel
theorem w_tables : (allAtoms (Jvm.Cond.code x code maxLocals ret :: tables_1)).before args0 about1 = true := by
  rw [allAtoms_all]
  show words1.all (fun c => c.before args0 about1) = true
  refine all_split ?_ w_codes
  rw [← List.take_append_drop 24 words1, List.all_append, w_t1, w_t2]
  rfl
set_option maxRecDepth 65536 in
theorem w_case : (Jvm.Cond.and given_1 narrow_1).before args0 about1 = true := by decide +kernel
theorem w_applies : (headSpec (Jvm.Cond.code x code maxLocals ret :: tables_1) room_1).applies x e0.platform about1 = true :=
  (Spec.applies_iff w_frames).mpr ⟨w_running, w_runnable, w_alone, w_named, w_hears, w_ripe, w_room, w_tables⟩
theorem atStart : AtStart classFile x code maxLocals ret World_1 tables_1 room_1 Calls_1 rest_1 Pre_1 launch0 p0 e0 about1 theMethod args0 below0 :=
  ⟨lists_1, trivial, launch0.admits_env _ _ _, launch0.least_env, fairChoices_fair.cas, fairChoices_fair.clock, w_frames, w_args, w_heap, w_applies, trivial, trivial, w_case⟩
end start1
theorem witness_1 : WitnessClaimed_1 := ⟨start1.p0, start1.e0, start1.about1, start1.theMethod, start1.args0, start1.below0, start1.atStart⟩
end Jvm.Pilot.@@N@@
