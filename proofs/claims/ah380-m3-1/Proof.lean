import JvmDerived
import JvmDerived.Pilot.@@N@@Statement
import JvmDerived.Pilot.@@N@@Code
set_option linter.unusedVariables false
set_option linter.unusedSimpArgs false
namespace Jvm.Pilot.@@N@@
open Jvm Jvm.ClassFile Sem Op Lib Jvm.Free Jvm.Stand Jvm.LawKit Jvm.RoadKit Bundle Jvm.Pilot.@@N@@.Jvm.D
/-- from the state U the run comes to the method's end, where Q holds of what it returns, of the heap and of the places written -/
def Dn (p : Program) (e : Env) (below : List Frame) (s : State) (k n : Nat) (Q : Option Value → Heap → List Loc → Prop) (U : State) : Prop :=
  ∃ t o, Steps p.tables e below U t ∧ t.status = .running ∧ Ended t below o ∧ ∃ v L, o = .returned v ∧ Q v t.heap L ∧ FrameEnd s o t L k n
theorem Dn.by {p : Program} {e : Env} {below : List Frame} {s : State} {k n : Nat} {Q : Option Value → Heap → List Loc → Prop} {U U' : State} (st : ∀ t, Steps p.tables e below U' t → Steps p.tables e below U t) (h : Dn p e below s k n Q U') : Dn p e below s k n Q U := by
  obtain ⟨t, o, h1, h2⟩ := h
  exact ⟨t, o, st t h1, h2⟩
theorem Dn.out {p : Program} {l : Launch} {e : Env} {R : Room} {s : State} {m : MethodId} {args : Array Value} {below : List Frame} {meth : Method} {c : Code} {T : State} {locs : List Loc} {cells slots k n : Nat} {Q : Option Value → Heap → List Loc → Prop} {U : State} (X : Stand p l e R s m args below meth c T locs cells slots) {v : Option Value} (hv : meth.sig.returnType = none → v = none) (hlk : meth.locks = false)
    (st : ∀ fs, (∀ (f : JFrame) (acts : List Action), f.method = m → f.locked = none → f.entered = [] → (doReturn e (T.setTop f) acts v).1 = T.setFrames fs) → Steps p.tables e below U (T.setFrames fs)) (hk : cells ≤ k) (hn : slots ≤ n) (hQ : Q v T.heap locs) : Dn p e below s k n Q U := by
  obtain ⟨fs, hr, hrun, hended, hW, hsame⟩ := X.leave (v := v) hv hlk
  exact ⟨_, _, st fs hr, hrun, hended, v, locs, rfl, hQ, ⟨_, rfl⟩, hW, hsame.mono hk hn⟩
theorem pn0 : plainName "com/example/osprey/osprey/transform/Repertoire" = true := by first | (simp [plainName, overriddenIn]; done) | decide +kernel
theorem pn1 : plainName "com/example/osprey/osprey/transform/RepertoireHoldsOnlyAsReferencePinLaw" = true := by first | (simp [plainName, overriddenIn]; done) | decide +kernel
theorem pd0 : parseMethodDescriptor "(I)Z" = some ⟨[.int], some .boolean⟩ := by decide +kernel
theorem pd1 : parseMethodDescriptor "(II)Z" = some ⟨[.int, .int], some .boolean⟩ := by decide +kernel
theorem d1_0 : decode prog_103_method_7_code 0 = .ok (.iload_n 1, 1) := by decide +kernel
theorem d1_1 : decode prog_103_method_7_code 1 = .ok (.iconst 1, 1) := by decide +kernel
theorem d1_2 : decode prog_103_method_7_code 2 = .ok (.if_icmp .lt 9, 3) := by decide +kernel
theorem d1_5 : decode prog_103_method_7_code 5 = .ok (.iload_n 1, 1) := by decide +kernel
theorem d1_6 : decode prog_103_method_7_code 6 = .ok (.bipush 8, 2) := by decide +kernel
theorem d1_8 : decode prog_103_method_7_code 8 = .ok (.if_icmp .le 54, 3) := by decide +kernel
theorem d1_11 : decode prog_103_method_7_code 11 = .ok (.iload_n 1, 1) := by decide +kernel
theorem d1_12 : decode prog_103_method_7_code 12 = .ok (.bipush 11, 2) := by decide +kernel
theorem d1_14 : decode prog_103_method_7_code 14 = .ok (.if_icmp .eq 48, 3) := by decide +kernel
theorem d1_17 : decode prog_103_method_7_code 17 = .ok (.iload_n 1, 1) := by decide +kernel
theorem d1_18 : decode prog_103_method_7_code 18 = .ok (.bipush 12, 2) := by decide +kernel
theorem d1_20 : decode prog_103_method_7_code 20 = .ok (.if_icmp .eq 42, 3) := by decide +kernel
theorem d1_23 : decode prog_103_method_7_code 23 = .ok (.iload_n 1, 1) := by decide +kernel
theorem d1_24 : decode prog_103_method_7_code 24 = .ok (.bipush 14, 2) := by decide +kernel
theorem d1_26 : decode prog_103_method_7_code 26 = .ok (.if_icmp .lt 9, 3) := by decide +kernel
theorem d1_29 : decode prog_103_method_7_code 29 = .ok (.iload_n 1, 1) := by decide +kernel
theorem d1_30 : decode prog_103_method_7_code 30 = .ok (.bipush 31, 2) := by decide +kernel
theorem d1_32 : decode prog_103_method_7_code 32 = .ok (.if_icmp .le 30, 3) := by decide +kernel
theorem d1_35 : decode prog_103_method_7_code 35 = .ok (.iload_n 1, 1) := by decide +kernel
theorem d1_36 : decode prog_103_method_7_code 36 = .ok (.bipush 127, 2) := by decide +kernel
theorem d1_38 : decode prog_103_method_7_code 38 = .ok (.if_icmp .lt 10, 3) := by decide +kernel
theorem d1_41 : decode prog_103_method_7_code 41 = .ok (.iload_n 1, 1) := by decide +kernel
theorem d1_42 : decode prog_103_method_7_code 42 = .ok (.sipush 132, 3) := by decide +kernel
theorem d1_45 : decode prog_103_method_7_code 45 = .ok (.if_icmp .le 17, 3) := by decide +kernel
theorem d1_48 : decode prog_103_method_7_code 48 = .ok (.iload_n 1, 1) := by decide +kernel
theorem d1_49 : decode prog_103_method_7_code 49 = .ok (.sipush 134, 3) := by decide +kernel
theorem d1_52 : decode prog_103_method_7_code 52 = .ok (.if_icmp .lt 14, 3) := by decide +kernel
theorem d1_55 : decode prog_103_method_7_code 55 = .ok (.iload_n 1, 1) := by decide +kernel
theorem d1_56 : decode prog_103_method_7_code 56 = .ok (.sipush 159, 3) := by decide +kernel
theorem d1_59 : decode prog_103_method_7_code 59 = .ok (.if_icmp .gt 7, 3) := by decide +kernel
theorem d1_62 : decode prog_103_method_7_code 62 = .ok (.iconst 1, 1) := by decide +kernel
theorem d1_63 : decode prog_103_method_7_code 63 = .ok (.goto 4, 3) := by decide +kernel
theorem d1_66 : decode prog_103_method_7_code 66 = .ok (.iconst 0, 1) := by decide +kernel
theorem d1_67 : decode prog_103_method_7_code 67 = .ok (.istore_n 2, 1) := by decide +kernel
theorem d1_68 : decode prog_103_method_7_code 68 = .ok (.aload_n 0, 1) := by decide +kernel
theorem d1_69 : decode prog_103_method_7_code 69 = .ok (.getstatic 7, 3) := by decide +kernel
theorem d1_72 : decode prog_103_method_7_code 72 = .ok (.if_acmp .ne 11, 3) := by decide +kernel
theorem d1_75 : decode prog_103_method_7_code 75 = .ok (.iload_n 2, 1) := by decide +kernel
theorem d1_76 : decode prog_103_method_7_code 76 = .ok (.ifCond .eq 7, 3) := by decide +kernel
theorem d1_79 : decode prog_103_method_7_code 79 = .ok (.iconst 1, 1) := by decide +kernel
theorem d1_80 : decode prog_103_method_7_code 80 = .ok (.goto 4, 3) := by decide +kernel
theorem d1_83 : decode prog_103_method_7_code 83 = .ok (.iconst 0, 1) := by decide +kernel
theorem d1_84 : decode prog_103_method_7_code 84 = .ok (.ireturn, 1) := by decide +kernel
theorem d2_0 : decode method_3_code 0 = .ok (.iload_n 0, 1) := by decide +kernel
theorem d2_1 : decode method_3_code 1 = .ok (.iconst 1, 1) := by decide +kernel
theorem d2_2 : decode method_3_code 2 = .ok (.if_icmp .eq 5, 3) := by decide +kernel
theorem d2_5 : decode method_3_code 5 = .ok (.iconst 0, 1) := by decide +kernel
theorem d2_6 : decode method_3_code 6 = .ok (.ireturn, 1) := by decide +kernel
theorem d2_7 : decode method_3_code 7 = .ok (.iload_n 1, 1) := by decide +kernel
theorem d2_8 : decode method_3_code 8 = .ok (.iconst 1, 1) := by decide +kernel
theorem d2_9 : decode method_3_code 9 = .ok (.if_icmp .lt 33, 3) := by decide +kernel
theorem d2_12 : decode method_3_code 12 = .ok (.iload_n 1, 1) := by decide +kernel
theorem d2_13 : decode method_3_code 13 = .ok (.bipush 31, 2) := by decide +kernel
theorem d2_15 : decode method_3_code 15 = .ok (.if_icmp .gt 27, 3) := by decide +kernel
theorem d2_18 : decode method_3_code 18 = .ok (.iload_n 1, 1) := by decide +kernel
theorem d2_19 : decode method_3_code 19 = .ok (.bipush 9, 2) := by decide +kernel
theorem d2_21 : decode method_3_code 21 = .ok (.if_icmp .eq 19, 3) := by decide +kernel
theorem d2_24 : decode method_3_code 24 = .ok (.iload_n 1, 1) := by decide +kernel
theorem d2_25 : decode method_3_code 25 = .ok (.bipush 10, 2) := by decide +kernel
theorem d2_27 : decode method_3_code 27 = .ok (.if_icmp .eq 13, 3) := by decide +kernel
theorem d2_30 : decode method_3_code 30 = .ok (.iload_n 1, 1) := by decide +kernel
theorem d2_31 : decode method_3_code 31 = .ok (.bipush 13, 2) := by decide +kernel
theorem d2_33 : decode method_3_code 33 = .ok (.if_icmp .eq 7, 3) := by decide +kernel
theorem d2_36 : decode method_3_code 36 = .ok (.iconst 1, 1) := by decide +kernel
theorem d2_37 : decode method_3_code 37 = .ok (.goto 4, 3) := by decide +kernel
theorem d2_40 : decode method_3_code 40 = .ok (.iconst 0, 1) := by decide +kernel
theorem d2_41 : decode method_3_code 41 = .ok (.ireturn, 1) := by decide +kernel
theorem d2_42 : decode method_3_code 42 = .ok (.iload_n 1, 1) := by decide +kernel
theorem d2_43 : decode method_3_code 43 = .ok (.bipush 127, 2) := by decide +kernel
theorem d2_45 : decode method_3_code 45 = .ok (.if_icmp .lt 23, 3) := by decide +kernel
theorem d2_48 : decode method_3_code 48 = .ok (.iload_n 1, 1) := by decide +kernel
theorem d2_49 : decode method_3_code 49 = .ok (.sipush 159, 3) := by decide +kernel
theorem d2_52 : decode method_3_code 52 = .ok (.if_icmp .gt 16, 3) := by decide +kernel
theorem d2_55 : decode method_3_code 55 = .ok (.iload_n 1, 1) := by decide +kernel
theorem d2_56 : decode method_3_code 56 = .ok (.sipush 133, 3) := by decide +kernel
theorem d2_59 : decode method_3_code 59 = .ok (.if_icmp .eq 7, 3) := by decide +kernel
theorem d2_62 : decode method_3_code 62 = .ok (.iconst 1, 1) := by decide +kernel
theorem d2_63 : decode method_3_code 63 = .ok (.goto 4, 3) := by decide +kernel
theorem d2_66 : decode method_3_code 66 = .ok (.iconst 0, 1) := by decide +kernel
theorem d2_67 : decode method_3_code 67 = .ok (.ireturn, 1) := by decide +kernel
theorem d2_68 : decode method_3_code 68 = .ok (.iconst 0, 1) := by decide +kernel
theorem d2_69 : decode method_3_code 69 = .ok (.ireturn, 1) := by decide +kernel
def hor (o0 : Addr) (p1 : Int32) (s_XML_1_1 : Addr) : Int32 := (if p1 < (1 : Int32) then (if p1 = (11 : Int32) then (if o0 = s_XML_1_1 then (1 : Int32) else (0 : Int32)) else (if p1 = (12 : Int32) then (if o0 = s_XML_1_1 then (1 : Int32) else (0 : Int32)) else (if p1 < (14 : Int32) then (if p1 < (127 : Int32) then (if p1 < (134 : Int32) then (if o0 = s_XML_1_1 then (0 : Int32) else (0 : Int32)) else (if (159 : Int32) < p1 then (if o0 = s_XML_1_1 then (0 : Int32) else (0 : Int32)) else (if o0 = s_XML_1_1 then (1 : Int32) else (0 : Int32)))) else (if (132 : Int32) < p1 then (if p1 < (134 : Int32) then (if o0 = s_XML_1_1 then (0 : Int32) else (0 : Int32)) else (if (159 : Int32) < p1 then (if o0 = s_XML_1_1 then (0 : Int32) else (0 : Int32)) else (if o0 = s_XML_1_1 then (1 : Int32) else (0 : Int32)))) else (if o0 = s_XML_1_1 then (1 : Int32) else (0 : Int32)))) else (if (31 : Int32) < p1 then (if p1 < (127 : Int32) then (if p1 < (134 : Int32) then (if o0 = s_XML_1_1 then (0 : Int32) else (0 : Int32)) else (if (159 : Int32) < p1 then (if o0 = s_XML_1_1 then (0 : Int32) else (0 : Int32)) else (if o0 = s_XML_1_1 then (1 : Int32) else (0 : Int32)))) else (if (132 : Int32) < p1 then (if p1 < (134 : Int32) then (if o0 = s_XML_1_1 then (0 : Int32) else (0 : Int32)) else (if (159 : Int32) < p1 then (if o0 = s_XML_1_1 then (0 : Int32) else (0 : Int32)) else (if o0 = s_XML_1_1 then (1 : Int32) else (0 : Int32)))) else (if o0 = s_XML_1_1 then (1 : Int32) else (0 : Int32)))) else (if o0 = s_XML_1_1 then (1 : Int32) else (0 : Int32)))))) else (if (8 : Int32) < p1 then (if p1 = (11 : Int32) then (if o0 = s_XML_1_1 then (1 : Int32) else (0 : Int32)) else (if p1 = (12 : Int32) then (if o0 = s_XML_1_1 then (1 : Int32) else (0 : Int32)) else (if p1 < (14 : Int32) then (if p1 < (127 : Int32) then (if p1 < (134 : Int32) then (if o0 = s_XML_1_1 then (0 : Int32) else (0 : Int32)) else (if (159 : Int32) < p1 then (if o0 = s_XML_1_1 then (0 : Int32) else (0 : Int32)) else (if o0 = s_XML_1_1 then (1 : Int32) else (0 : Int32)))) else (if (132 : Int32) < p1 then (if p1 < (134 : Int32) then (if o0 = s_XML_1_1 then (0 : Int32) else (0 : Int32)) else (if (159 : Int32) < p1 then (if o0 = s_XML_1_1 then (0 : Int32) else (0 : Int32)) else (if o0 = s_XML_1_1 then (1 : Int32) else (0 : Int32)))) else (if o0 = s_XML_1_1 then (1 : Int32) else (0 : Int32)))) else (if (31 : Int32) < p1 then (if p1 < (127 : Int32) then (if p1 < (134 : Int32) then (if o0 = s_XML_1_1 then (0 : Int32) else (0 : Int32)) else (if (159 : Int32) < p1 then (if o0 = s_XML_1_1 then (0 : Int32) else (0 : Int32)) else (if o0 = s_XML_1_1 then (1 : Int32) else (0 : Int32)))) else (if (132 : Int32) < p1 then (if p1 < (134 : Int32) then (if o0 = s_XML_1_1 then (0 : Int32) else (0 : Int32)) else (if (159 : Int32) < p1 then (if o0 = s_XML_1_1 then (0 : Int32) else (0 : Int32)) else (if o0 = s_XML_1_1 then (1 : Int32) else (0 : Int32)))) else (if o0 = s_XML_1_1 then (1 : Int32) else (0 : Int32)))) else (if o0 = s_XML_1_1 then (1 : Int32) else (0 : Int32)))))) else (if o0 = s_XML_1_1 then (1 : Int32) else (0 : Int32))))
abbrev Rm1 : Room := { frames := 0, cells := 0, slots := 0, locals := 0 }
theorem ef_1 (m : MethodId) (o0 : Addr) (p1 : Int32) : entryFrame m #[(.ref o0), (.int p1)] 3 = mkF m 0 #[.val (.ref o0), .val (.int p1), .unset] [] := by first | (simp [entryFrame, mkF, argsToLocals, Value.category]; done) | rfl
def Q1 (Z : State) (o0 : Addr) (p1 : Int32) (s_XML_1_1 : Addr) (h0 : Heap) (n0 : Nat) (v : Option Value) (h : Heap) (L : List Loc) : Prop := v = some (.int (hor o0 p1 s_XML_1_1)) ∧ Fr n0 L ∧ h = h0
set_option maxRecDepth 65536 in
set_option maxHeartbeats 40000000 in
theorem rm1 (l : Launch) (Z : State) (a0 : Array Value) (hw : ∀ d ∈ tables_1, d.before a0 Z = true) (ws : List Jvm.Cond) (o0 : Addr) (p1 : Int32) (s_XML_1_1 : Addr) (h0 : Heap) (n0 : Nat) (Z0 : n0 ≤ h0.size) (S_XML_1_1 : Sta Z h0 "com/example/osprey/osprey/transform/Repertoire" "XML_1_1" "Lcom/example/osprey/osprey/transform/Repertoire;" (.ref s_XML_1_1)) :
    MetFree l (⟨"com/example/osprey/osprey/transform/Repertoire", "holdsOnlyAsReference", "(I)Z"⟩ : MethodName) (head1 (Jvm.Cond.code (⟨"com/example/osprey/osprey/transform/Repertoire", "holdsOnlyAsReference", "(I)Z"⟩ : MethodName) prog_103_method_7_code 3 (some .boolean) :: ws) Rm1) (fun a U => a = #[(.ref o0), (.int p1)] ∧ Z.Warmed39 U.vm ∧ U.heap = h0) (fun _ _ _ _ _ => True) (fun _ U o U' => ∃ v L, o = .returned v ∧ Q1 Z o0 p1 s_XML_1_1 h0 n0 v U'.heap L ∧ FrameEnd U o U' L Rm1.cells Rm1.slots) := by
  refine MetFree.of_bodySF (plainFor_of_name pn0) hisR ?_
  intro p e s m args below meth c s₁ Bd hml0 hP hK
  obtain ⟨rfl, hZ, hh⟩ := hP
  have hx := Bd.exec
  have hby := Bd.bytes
  have hml : c.maxLocals = 3 := hml0
  have hown : s.vm.findClass "com/example/osprey/osprey/transform/Repertoire" = some m.cls := findClass_of_methodNamed Bd.named
  have hnm := (name_of_methodNamed Bd.named Bd.method).1
  have X0 : Stand p l e Rm1 s m #[(.ref o0), (.int p1)] below meth c s₁ [] 0 0 := Stand.of_body Bd
  have e0 : s₁.heap = h0 := by rw [← hh, Bd.state]; rfl
  have N0 := Fr.nil n0
  show Dn p e below s Rm1.cells Rm1.slots (Q1 Z o0 p1 s_XML_1_1 h0 n0) (s₁.setTop (entryFrame m #[(.ref o0), (.int p1)] 3))
  rw [ef_1]
  refine Dn.by (U' := s₁.setTop (mkF m 1 #[.val (.ref o0), .val (.int p1), .unset] [(.int p1)])) (fun _ k => XS.iloadN X0.here hx rfl (hb hby d1_0) rfl k) ?_
  refine Dn.by (U' := s₁.setTop (mkF m 2 #[.val (.ref o0), .val (.int p1), .unset] [(.int (1 : Int32)), (.int p1)])) (fun _ k => XS.iconst X0.here hx rfl (hb hby d1_1)  k) ?_
  by_cases c2_1 : p1 < (1 : Int32)
  ·
    refine Dn.by (U' := s₁.setTop (mkF m 11 #[.val (.ref o0), .val (.int p1), .unset] [])) (fun _ k => XS.icmpYes X0.here hx rfl (pc0 := 2) (pc' := 11) rfl (hb hby d1_2) rfl (tlt c2_1).1 (by decide) (by decide) k) ?_
    refine Dn.by (U' := s₁.setTop (mkF m 12 #[.val (.ref o0), .val (.int p1), .unset] [(.int p1)])) (fun _ k => XS.iloadN X0.here hx rfl (hb hby d1_11) rfl k) ?_
    refine Dn.by (U' := s₁.setTop (mkF m 14 #[.val (.ref o0), .val (.int p1), .unset] [(.int (11 : Int32)), (.int p1)])) (fun _ k => XS.bipush X0.here hx rfl (hb hby d1_12)  k) ?_
    by_cases c14_2 : p1 = (11 : Int32)
    ·
      refine Dn.by (U' := s₁.setTop (mkF m 62 #[.val (.ref o0), .val (.int p1), .unset] [])) (fun _ k => XS.icmpYes X0.here hx rfl (pc0 := 14) (pc' := 62) rfl (hb hby d1_14) rfl (teq c14_2).1 (by decide) (by decide) k) ?_
      refine Dn.by (U' := s₁.setTop (mkF m 63 #[.val (.ref o0), .val (.int p1), .unset] [(.int (1 : Int32))])) (fun _ k => XS.iconst X0.here hx rfl (hb hby d1_62)  k) ?_
      refine Dn.by (U' := s₁.setTop (mkF m 67 #[.val (.ref o0), .val (.int p1), .unset] [(.int (1 : Int32))])) (fun _ k => XS.goto X0.here hx rfl (pc0 := 63) (pc' := 67) rfl (hb hby d1_63) (by decide) (by decide) k) ?_
      refine Dn.by (U' := s₁.setTop (mkF m 68 #[.val (.ref o0), .val (.int p1), .val (.int (1 : Int32))] [])) (fun _ k => XS.istoreN X0.here hx rfl (hb hby d1_67) rfl (l' := #[.val (.ref o0), .val (.int p1), .val (.int (1 : Int32))]) rfl k) ?_
      refine Dn.by (U' := s₁.setTop (mkF m 69 #[.val (.ref o0), .val (.int p1), .val (.int (1 : Int32))] [(.ref o0)])) (fun _ k => XS.aloadN X0.here hx rfl (hb hby d1_68) rfl rfl k) ?_
      obtain ⟨T3, X3, e3, st3⟩ := getS2 X0 hx hZ (a0 := a0) hown (host := "") (Or.inl (hw _ (List.mem_of_getElem? (i := 8) rfl))) Via.refl e0 S_XML_1_1 (g := (mkF m 69 #[.val (.ref o0), .val (.int p1), .val (.int (1 : Int32))] [(.ref o0)])) rfl (hb hby d1_69)
      refine Dn.by (U' := T3.setTop (mkF m 72 #[.val (.ref o0), .val (.int p1), .val (.int (1 : Int32))] [(.ref s_XML_1_1), (.ref o0)])) st3 ?_
      by_cases c72_4 : o0 = s_XML_1_1
      ·
        refine Dn.by (U' := T3.setTop (mkF m 75 #[.val (.ref o0), .val (.int p1), .val (.int (1 : Int32))] [])) (fun _ k => Jvm.RoadKit.acmp (g := (mkF m 72 #[.val (.ref o0), .val (.int p1), .val (.int (1 : Int32))] [(.ref s_XML_1_1), (.ref o0)])) X3 hx rfl rfl rfl (pc0 := 72) (pc' := 75) (same := true) rfl (hb hby d1_72) rfl (decide_eq_true (congrArg Value.ref c72_4)) (by decide) (by decide) k) ?_
        refine Dn.by (U' := T3.setTop (mkF m 76 #[.val (.ref o0), .val (.int p1), .val (.int (1 : Int32))] [(.int (1 : Int32))])) (fun _ k => XS.iloadN X3.here hx rfl (hb hby d1_75) rfl k) ?_
        refine Dn.by (U' := T3.setTop (mkF m 79 #[.val (.ref o0), .val (.int p1), .val (.int (1 : Int32))] [])) (fun _ k => XS.ifNo X3.here hx rfl (hb hby d1_76) rfl (by decide) k) ?_
        refine Dn.by (U' := T3.setTop (mkF m 80 #[.val (.ref o0), .val (.int p1), .val (.int (1 : Int32))] [(.int (1 : Int32))])) (fun _ k => XS.iconst X3.here hx rfl (hb hby d1_79)  k) ?_
        refine Dn.by (U' := T3.setTop (mkF m 84 #[.val (.ref o0), .val (.int p1), .val (.int (1 : Int32))] [(.int (1 : Int32))])) (fun _ k => XS.goto X3.here hx rfl (pc0 := 80) (pc' := 84) rfl (hb hby d1_80) (by decide) (by decide) k) ?_
        refine Dn.out X3 (v := (some (.int (1 : Int32)))) (fun h => by rw [Bd.returns] at h; cases h) (BodyLoose.notSynchronized Bd) (fun _ hr => retN X3 hx (t := .boolean) Bd.returns (by simp) (hb hby d1_84) hr) (by decide) (by decide) ?_
        rw [e3]
        exact ⟨by simp only [hor, if_pos c2_1, if_pos c14_2, if_pos c72_4], N0, rfl⟩
      ·
        refine Dn.by (U' := T3.setTop (mkF m 83 #[.val (.ref o0), .val (.int p1), .val (.int (1 : Int32))] [])) (fun _ k => Jvm.RoadKit.acmp (g := (mkF m 72 #[.val (.ref o0), .val (.int p1), .val (.int (1 : Int32))] [(.ref s_XML_1_1), (.ref o0)])) X3 hx rfl rfl rfl (pc0 := 72) (pc' := 83) (same := false) rfl (hb hby d1_72) rfl (decide_eq_false fun q => c72_4 (Value.ref.inj q)) (by decide) (by decide) k) ?_
        refine Dn.by (U' := T3.setTop (mkF m 84 #[.val (.ref o0), .val (.int p1), .val (.int (1 : Int32))] [(.int (0 : Int32))])) (fun _ k => XS.iconst X3.here hx rfl (hb hby d1_83)  k) ?_
        refine Dn.out X3 (v := (some (.int (0 : Int32)))) (fun h => by rw [Bd.returns] at h; cases h) (BodyLoose.notSynchronized Bd) (fun _ hr => retN X3 hx (t := .boolean) Bd.returns (by simp) (hb hby d1_84) hr) (by decide) (by decide) ?_
        rw [e3]
        exact ⟨by simp only [hor, if_pos c2_1, if_pos c14_2, if_neg c72_4], N0, rfl⟩
    ·
      refine Dn.by (U' := s₁.setTop (mkF m 17 #[.val (.ref o0), .val (.int p1), .unset] [])) (fun _ k => XS.icmpNo X0.here hx rfl (hb hby d1_14) rfl (feq c14_2).1 k) ?_
      refine Dn.by (U' := s₁.setTop (mkF m 18 #[.val (.ref o0), .val (.int p1), .unset] [(.int p1)])) (fun _ k => XS.iloadN X0.here hx rfl (hb hby d1_17) rfl k) ?_
      refine Dn.by (U' := s₁.setTop (mkF m 20 #[.val (.ref o0), .val (.int p1), .unset] [(.int (12 : Int32)), (.int p1)])) (fun _ k => XS.bipush X0.here hx rfl (hb hby d1_18)  k) ?_
      by_cases c20_5 : p1 = (12 : Int32)
      ·
        refine Dn.by (U' := s₁.setTop (mkF m 62 #[.val (.ref o0), .val (.int p1), .unset] [])) (fun _ k => XS.icmpYes X0.here hx rfl (pc0 := 20) (pc' := 62) rfl (hb hby d1_20) rfl (teq c20_5).1 (by decide) (by decide) k) ?_
        refine Dn.by (U' := s₁.setTop (mkF m 63 #[.val (.ref o0), .val (.int p1), .unset] [(.int (1 : Int32))])) (fun _ k => XS.iconst X0.here hx rfl (hb hby d1_62)  k) ?_
        refine Dn.by (U' := s₁.setTop (mkF m 67 #[.val (.ref o0), .val (.int p1), .unset] [(.int (1 : Int32))])) (fun _ k => XS.goto X0.here hx rfl (pc0 := 63) (pc' := 67) rfl (hb hby d1_63) (by decide) (by decide) k) ?_
        refine Dn.by (U' := s₁.setTop (mkF m 68 #[.val (.ref o0), .val (.int p1), .val (.int (1 : Int32))] [])) (fun _ k => XS.istoreN X0.here hx rfl (hb hby d1_67) rfl (l' := #[.val (.ref o0), .val (.int p1), .val (.int (1 : Int32))]) rfl k) ?_
        refine Dn.by (U' := s₁.setTop (mkF m 69 #[.val (.ref o0), .val (.int p1), .val (.int (1 : Int32))] [(.ref o0)])) (fun _ k => XS.aloadN X0.here hx rfl (hb hby d1_68) rfl rfl k) ?_
        obtain ⟨T6, X6, e6, st6⟩ := getS2 X0 hx hZ (a0 := a0) hown (host := "") (Or.inl (hw _ (List.mem_of_getElem? (i := 8) rfl))) Via.refl e0 S_XML_1_1 (g := (mkF m 69 #[.val (.ref o0), .val (.int p1), .val (.int (1 : Int32))] [(.ref o0)])) rfl (hb hby d1_69)
        refine Dn.by (U' := T6.setTop (mkF m 72 #[.val (.ref o0), .val (.int p1), .val (.int (1 : Int32))] [(.ref s_XML_1_1), (.ref o0)])) st6 ?_
        by_cases c72_7 : o0 = s_XML_1_1
        ·
          refine Dn.by (U' := T6.setTop (mkF m 75 #[.val (.ref o0), .val (.int p1), .val (.int (1 : Int32))] [])) (fun _ k => Jvm.RoadKit.acmp (g := (mkF m 72 #[.val (.ref o0), .val (.int p1), .val (.int (1 : Int32))] [(.ref s_XML_1_1), (.ref o0)])) X6 hx rfl rfl rfl (pc0 := 72) (pc' := 75) (same := true) rfl (hb hby d1_72) rfl (decide_eq_true (congrArg Value.ref c72_7)) (by decide) (by decide) k) ?_
          refine Dn.by (U' := T6.setTop (mkF m 76 #[.val (.ref o0), .val (.int p1), .val (.int (1 : Int32))] [(.int (1 : Int32))])) (fun _ k => XS.iloadN X6.here hx rfl (hb hby d1_75) rfl k) ?_
          refine Dn.by (U' := T6.setTop (mkF m 79 #[.val (.ref o0), .val (.int p1), .val (.int (1 : Int32))] [])) (fun _ k => XS.ifNo X6.here hx rfl (hb hby d1_76) rfl (by decide) k) ?_
          refine Dn.by (U' := T6.setTop (mkF m 80 #[.val (.ref o0), .val (.int p1), .val (.int (1 : Int32))] [(.int (1 : Int32))])) (fun _ k => XS.iconst X6.here hx rfl (hb hby d1_79)  k) ?_
          refine Dn.by (U' := T6.setTop (mkF m 84 #[.val (.ref o0), .val (.int p1), .val (.int (1 : Int32))] [(.int (1 : Int32))])) (fun _ k => XS.goto X6.here hx rfl (pc0 := 80) (pc' := 84) rfl (hb hby d1_80) (by decide) (by decide) k) ?_
          refine Dn.out X6 (v := (some (.int (1 : Int32)))) (fun h => by rw [Bd.returns] at h; cases h) (BodyLoose.notSynchronized Bd) (fun _ hr => retN X6 hx (t := .boolean) Bd.returns (by simp) (hb hby d1_84) hr) (by decide) (by decide) ?_
          rw [e6]
          exact ⟨by simp only [hor, if_pos c2_1, if_neg c14_2, if_pos c20_5, if_pos c72_7], N0, rfl⟩
        ·
          refine Dn.by (U' := T6.setTop (mkF m 83 #[.val (.ref o0), .val (.int p1), .val (.int (1 : Int32))] [])) (fun _ k => Jvm.RoadKit.acmp (g := (mkF m 72 #[.val (.ref o0), .val (.int p1), .val (.int (1 : Int32))] [(.ref s_XML_1_1), (.ref o0)])) X6 hx rfl rfl rfl (pc0 := 72) (pc' := 83) (same := false) rfl (hb hby d1_72) rfl (decide_eq_false fun q => c72_7 (Value.ref.inj q)) (by decide) (by decide) k) ?_
          refine Dn.by (U' := T6.setTop (mkF m 84 #[.val (.ref o0), .val (.int p1), .val (.int (1 : Int32))] [(.int (0 : Int32))])) (fun _ k => XS.iconst X6.here hx rfl (hb hby d1_83)  k) ?_
          refine Dn.out X6 (v := (some (.int (0 : Int32)))) (fun h => by rw [Bd.returns] at h; cases h) (BodyLoose.notSynchronized Bd) (fun _ hr => retN X6 hx (t := .boolean) Bd.returns (by simp) (hb hby d1_84) hr) (by decide) (by decide) ?_
          rw [e6]
          exact ⟨by simp only [hor, if_pos c2_1, if_neg c14_2, if_pos c20_5, if_neg c72_7], N0, rfl⟩
      ·
        refine Dn.by (U' := s₁.setTop (mkF m 23 #[.val (.ref o0), .val (.int p1), .unset] [])) (fun _ k => XS.icmpNo X0.here hx rfl (hb hby d1_20) rfl (feq c20_5).1 k) ?_
        refine Dn.by (U' := s₁.setTop (mkF m 24 #[.val (.ref o0), .val (.int p1), .unset] [(.int p1)])) (fun _ k => XS.iloadN X0.here hx rfl (hb hby d1_23) rfl k) ?_
        refine Dn.by (U' := s₁.setTop (mkF m 26 #[.val (.ref o0), .val (.int p1), .unset] [(.int (14 : Int32)), (.int p1)])) (fun _ k => XS.bipush X0.here hx rfl (hb hby d1_24)  k) ?_
        by_cases c26_8 : p1 < (14 : Int32)
        ·
          refine Dn.by (U' := s₁.setTop (mkF m 35 #[.val (.ref o0), .val (.int p1), .unset] [])) (fun _ k => XS.icmpYes X0.here hx rfl (pc0 := 26) (pc' := 35) rfl (hb hby d1_26) rfl (tlt c26_8).1 (by decide) (by decide) k) ?_
          refine Dn.by (U' := s₁.setTop (mkF m 36 #[.val (.ref o0), .val (.int p1), .unset] [(.int p1)])) (fun _ k => XS.iloadN X0.here hx rfl (hb hby d1_35) rfl k) ?_
          refine Dn.by (U' := s₁.setTop (mkF m 38 #[.val (.ref o0), .val (.int p1), .unset] [(.int (127 : Int32)), (.int p1)])) (fun _ k => XS.bipush X0.here hx rfl (hb hby d1_36)  k) ?_
          by_cases c38_9 : p1 < (127 : Int32)
          ·
            refine Dn.by (U' := s₁.setTop (mkF m 48 #[.val (.ref o0), .val (.int p1), .unset] [])) (fun _ k => XS.icmpYes X0.here hx rfl (pc0 := 38) (pc' := 48) rfl (hb hby d1_38) rfl (tlt c38_9).1 (by decide) (by decide) k) ?_
            refine Dn.by (U' := s₁.setTop (mkF m 49 #[.val (.ref o0), .val (.int p1), .unset] [(.int p1)])) (fun _ k => XS.iloadN X0.here hx rfl (hb hby d1_48) rfl k) ?_
            refine Dn.by (U' := s₁.setTop (mkF m 52 #[.val (.ref o0), .val (.int p1), .unset] [(.int (134 : Int32)), (.int p1)])) (fun _ k => XS.sipush X0.here hx rfl (hb hby d1_49)  k) ?_
            by_cases c52_10 : p1 < (134 : Int32)
            ·
              refine Dn.by (U' := s₁.setTop (mkF m 66 #[.val (.ref o0), .val (.int p1), .unset] [])) (fun _ k => XS.icmpYes X0.here hx rfl (pc0 := 52) (pc' := 66) rfl (hb hby d1_52) rfl (tlt c52_10).1 (by decide) (by decide) k) ?_
              refine Dn.by (U' := s₁.setTop (mkF m 67 #[.val (.ref o0), .val (.int p1), .unset] [(.int (0 : Int32))])) (fun _ k => XS.iconst X0.here hx rfl (hb hby d1_66)  k) ?_
              refine Dn.by (U' := s₁.setTop (mkF m 68 #[.val (.ref o0), .val (.int p1), .val (.int (0 : Int32))] [])) (fun _ k => XS.istoreN X0.here hx rfl (hb hby d1_67) rfl (l' := #[.val (.ref o0), .val (.int p1), .val (.int (0 : Int32))]) rfl k) ?_
              refine Dn.by (U' := s₁.setTop (mkF m 69 #[.val (.ref o0), .val (.int p1), .val (.int (0 : Int32))] [(.ref o0)])) (fun _ k => XS.aloadN X0.here hx rfl (hb hby d1_68) rfl rfl k) ?_
              obtain ⟨T11, X11, e11, st11⟩ := getS2 X0 hx hZ (a0 := a0) hown (host := "") (Or.inl (hw _ (List.mem_of_getElem? (i := 8) rfl))) Via.refl e0 S_XML_1_1 (g := (mkF m 69 #[.val (.ref o0), .val (.int p1), .val (.int (0 : Int32))] [(.ref o0)])) rfl (hb hby d1_69)
              refine Dn.by (U' := T11.setTop (mkF m 72 #[.val (.ref o0), .val (.int p1), .val (.int (0 : Int32))] [(.ref s_XML_1_1), (.ref o0)])) st11 ?_
              by_cases c72_12 : o0 = s_XML_1_1
              ·
                refine Dn.by (U' := T11.setTop (mkF m 75 #[.val (.ref o0), .val (.int p1), .val (.int (0 : Int32))] [])) (fun _ k => Jvm.RoadKit.acmp (g := (mkF m 72 #[.val (.ref o0), .val (.int p1), .val (.int (0 : Int32))] [(.ref s_XML_1_1), (.ref o0)])) X11 hx rfl rfl rfl (pc0 := 72) (pc' := 75) (same := true) rfl (hb hby d1_72) rfl (decide_eq_true (congrArg Value.ref c72_12)) (by decide) (by decide) k) ?_
                refine Dn.by (U' := T11.setTop (mkF m 76 #[.val (.ref o0), .val (.int p1), .val (.int (0 : Int32))] [(.int (0 : Int32))])) (fun _ k => XS.iloadN X11.here hx rfl (hb hby d1_75) rfl k) ?_
                refine Dn.by (U' := T11.setTop (mkF m 83 #[.val (.ref o0), .val (.int p1), .val (.int (0 : Int32))] [])) (fun _ k => XS.ifYes X11.here hx rfl (pc0 := 76) (pc' := 83) rfl (hb hby d1_76) rfl (by decide) (by decide) (by decide) k) ?_
                refine Dn.by (U' := T11.setTop (mkF m 84 #[.val (.ref o0), .val (.int p1), .val (.int (0 : Int32))] [(.int (0 : Int32))])) (fun _ k => XS.iconst X11.here hx rfl (hb hby d1_83)  k) ?_
                refine Dn.out X11 (v := (some (.int (0 : Int32)))) (fun h => by rw [Bd.returns] at h; cases h) (BodyLoose.notSynchronized Bd) (fun _ hr => retN X11 hx (t := .boolean) Bd.returns (by simp) (hb hby d1_84) hr) (by decide) (by decide) ?_
                rw [e11]
                exact ⟨by simp only [hor, if_pos c2_1, if_neg c14_2, if_neg c20_5, if_pos c26_8, if_pos c38_9, if_pos c52_10, if_pos c72_12], N0, rfl⟩
              ·
                refine Dn.by (U' := T11.setTop (mkF m 83 #[.val (.ref o0), .val (.int p1), .val (.int (0 : Int32))] [])) (fun _ k => Jvm.RoadKit.acmp (g := (mkF m 72 #[.val (.ref o0), .val (.int p1), .val (.int (0 : Int32))] [(.ref s_XML_1_1), (.ref o0)])) X11 hx rfl rfl rfl (pc0 := 72) (pc' := 83) (same := false) rfl (hb hby d1_72) rfl (decide_eq_false fun q => c72_12 (Value.ref.inj q)) (by decide) (by decide) k) ?_
                refine Dn.by (U' := T11.setTop (mkF m 84 #[.val (.ref o0), .val (.int p1), .val (.int (0 : Int32))] [(.int (0 : Int32))])) (fun _ k => XS.iconst X11.here hx rfl (hb hby d1_83)  k) ?_
                refine Dn.out X11 (v := (some (.int (0 : Int32)))) (fun h => by rw [Bd.returns] at h; cases h) (BodyLoose.notSynchronized Bd) (fun _ hr => retN X11 hx (t := .boolean) Bd.returns (by simp) (hb hby d1_84) hr) (by decide) (by decide) ?_
                rw [e11]
                exact ⟨by simp only [hor, if_pos c2_1, if_neg c14_2, if_neg c20_5, if_pos c26_8, if_pos c38_9, if_pos c52_10, if_neg c72_12], N0, rfl⟩
            ·
              refine Dn.by (U' := s₁.setTop (mkF m 55 #[.val (.ref o0), .val (.int p1), .unset] [])) (fun _ k => XS.icmpNo X0.here hx rfl (hb hby d1_52) rfl (flt c52_10).1 k) ?_
              refine Dn.by (U' := s₁.setTop (mkF m 56 #[.val (.ref o0), .val (.int p1), .unset] [(.int p1)])) (fun _ k => XS.iloadN X0.here hx rfl (hb hby d1_55) rfl k) ?_
              refine Dn.by (U' := s₁.setTop (mkF m 59 #[.val (.ref o0), .val (.int p1), .unset] [(.int (159 : Int32)), (.int p1)])) (fun _ k => XS.sipush X0.here hx rfl (hb hby d1_56)  k) ?_
              by_cases c59_13 : (159 : Int32) < p1
              ·
                refine Dn.by (U' := s₁.setTop (mkF m 66 #[.val (.ref o0), .val (.int p1), .unset] [])) (fun _ k => XS.icmpYes X0.here hx rfl (pc0 := 59) (pc' := 66) rfl (hb hby d1_59) rfl (tlt c59_13).2.2.1 (by decide) (by decide) k) ?_
                refine Dn.by (U' := s₁.setTop (mkF m 67 #[.val (.ref o0), .val (.int p1), .unset] [(.int (0 : Int32))])) (fun _ k => XS.iconst X0.here hx rfl (hb hby d1_66)  k) ?_
                refine Dn.by (U' := s₁.setTop (mkF m 68 #[.val (.ref o0), .val (.int p1), .val (.int (0 : Int32))] [])) (fun _ k => XS.istoreN X0.here hx rfl (hb hby d1_67) rfl (l' := #[.val (.ref o0), .val (.int p1), .val (.int (0 : Int32))]) rfl k) ?_
                refine Dn.by (U' := s₁.setTop (mkF m 69 #[.val (.ref o0), .val (.int p1), .val (.int (0 : Int32))] [(.ref o0)])) (fun _ k => XS.aloadN X0.here hx rfl (hb hby d1_68) rfl rfl k) ?_
                obtain ⟨T14, X14, e14, st14⟩ := getS2 X0 hx hZ (a0 := a0) hown (host := "") (Or.inl (hw _ (List.mem_of_getElem? (i := 8) rfl))) Via.refl e0 S_XML_1_1 (g := (mkF m 69 #[.val (.ref o0), .val (.int p1), .val (.int (0 : Int32))] [(.ref o0)])) rfl (hb hby d1_69)
                refine Dn.by (U' := T14.setTop (mkF m 72 #[.val (.ref o0), .val (.int p1), .val (.int (0 : Int32))] [(.ref s_XML_1_1), (.ref o0)])) st14 ?_
                by_cases c72_15 : o0 = s_XML_1_1
                ·
                  refine Dn.by (U' := T14.setTop (mkF m 75 #[.val (.ref o0), .val (.int p1), .val (.int (0 : Int32))] [])) (fun _ k => Jvm.RoadKit.acmp (g := (mkF m 72 #[.val (.ref o0), .val (.int p1), .val (.int (0 : Int32))] [(.ref s_XML_1_1), (.ref o0)])) X14 hx rfl rfl rfl (pc0 := 72) (pc' := 75) (same := true) rfl (hb hby d1_72) rfl (decide_eq_true (congrArg Value.ref c72_15)) (by decide) (by decide) k) ?_
                  refine Dn.by (U' := T14.setTop (mkF m 76 #[.val (.ref o0), .val (.int p1), .val (.int (0 : Int32))] [(.int (0 : Int32))])) (fun _ k => XS.iloadN X14.here hx rfl (hb hby d1_75) rfl k) ?_
                  refine Dn.by (U' := T14.setTop (mkF m 83 #[.val (.ref o0), .val (.int p1), .val (.int (0 : Int32))] [])) (fun _ k => XS.ifYes X14.here hx rfl (pc0 := 76) (pc' := 83) rfl (hb hby d1_76) rfl (by decide) (by decide) (by decide) k) ?_
                  refine Dn.by (U' := T14.setTop (mkF m 84 #[.val (.ref o0), .val (.int p1), .val (.int (0 : Int32))] [(.int (0 : Int32))])) (fun _ k => XS.iconst X14.here hx rfl (hb hby d1_83)  k) ?_
                  refine Dn.out X14 (v := (some (.int (0 : Int32)))) (fun h => by rw [Bd.returns] at h; cases h) (BodyLoose.notSynchronized Bd) (fun _ hr => retN X14 hx (t := .boolean) Bd.returns (by simp) (hb hby d1_84) hr) (by decide) (by decide) ?_
                  rw [e14]
                  exact ⟨by simp only [hor, if_pos c2_1, if_neg c14_2, if_neg c20_5, if_pos c26_8, if_pos c38_9, if_neg c52_10, if_pos c59_13, if_pos c72_15], N0, rfl⟩
                ·
                  refine Dn.by (U' := T14.setTop (mkF m 83 #[.val (.ref o0), .val (.int p1), .val (.int (0 : Int32))] [])) (fun _ k => Jvm.RoadKit.acmp (g := (mkF m 72 #[.val (.ref o0), .val (.int p1), .val (.int (0 : Int32))] [(.ref s_XML_1_1), (.ref o0)])) X14 hx rfl rfl rfl (pc0 := 72) (pc' := 83) (same := false) rfl (hb hby d1_72) rfl (decide_eq_false fun q => c72_15 (Value.ref.inj q)) (by decide) (by decide) k) ?_
                  refine Dn.by (U' := T14.setTop (mkF m 84 #[.val (.ref o0), .val (.int p1), .val (.int (0 : Int32))] [(.int (0 : Int32))])) (fun _ k => XS.iconst X14.here hx rfl (hb hby d1_83)  k) ?_
                  refine Dn.out X14 (v := (some (.int (0 : Int32)))) (fun h => by rw [Bd.returns] at h; cases h) (BodyLoose.notSynchronized Bd) (fun _ hr => retN X14 hx (t := .boolean) Bd.returns (by simp) (hb hby d1_84) hr) (by decide) (by decide) ?_
                  rw [e14]
                  exact ⟨by simp only [hor, if_pos c2_1, if_neg c14_2, if_neg c20_5, if_pos c26_8, if_pos c38_9, if_neg c52_10, if_pos c59_13, if_neg c72_15], N0, rfl⟩
              ·
                refine Dn.by (U' := s₁.setTop (mkF m 62 #[.val (.ref o0), .val (.int p1), .unset] [])) (fun _ k => XS.icmpNo X0.here hx rfl (hb hby d1_59) rfl (flt c59_13).2.2.1 k) ?_
                refine Dn.by (U' := s₁.setTop (mkF m 63 #[.val (.ref o0), .val (.int p1), .unset] [(.int (1 : Int32))])) (fun _ k => XS.iconst X0.here hx rfl (hb hby d1_62)  k) ?_
                refine Dn.by (U' := s₁.setTop (mkF m 67 #[.val (.ref o0), .val (.int p1), .unset] [(.int (1 : Int32))])) (fun _ k => XS.goto X0.here hx rfl (pc0 := 63) (pc' := 67) rfl (hb hby d1_63) (by decide) (by decide) k) ?_
                refine Dn.by (U' := s₁.setTop (mkF m 68 #[.val (.ref o0), .val (.int p1), .val (.int (1 : Int32))] [])) (fun _ k => XS.istoreN X0.here hx rfl (hb hby d1_67) rfl (l' := #[.val (.ref o0), .val (.int p1), .val (.int (1 : Int32))]) rfl k) ?_
                refine Dn.by (U' := s₁.setTop (mkF m 69 #[.val (.ref o0), .val (.int p1), .val (.int (1 : Int32))] [(.ref o0)])) (fun _ k => XS.aloadN X0.here hx rfl (hb hby d1_68) rfl rfl k) ?_
                obtain ⟨T16, X16, e16, st16⟩ := getS2 X0 hx hZ (a0 := a0) hown (host := "") (Or.inl (hw _ (List.mem_of_getElem? (i := 8) rfl))) Via.refl e0 S_XML_1_1 (g := (mkF m 69 #[.val (.ref o0), .val (.int p1), .val (.int (1 : Int32))] [(.ref o0)])) rfl (hb hby d1_69)
                refine Dn.by (U' := T16.setTop (mkF m 72 #[.val (.ref o0), .val (.int p1), .val (.int (1 : Int32))] [(.ref s_XML_1_1), (.ref o0)])) st16 ?_
                by_cases c72_17 : o0 = s_XML_1_1
                ·
                  refine Dn.by (U' := T16.setTop (mkF m 75 #[.val (.ref o0), .val (.int p1), .val (.int (1 : Int32))] [])) (fun _ k => Jvm.RoadKit.acmp (g := (mkF m 72 #[.val (.ref o0), .val (.int p1), .val (.int (1 : Int32))] [(.ref s_XML_1_1), (.ref o0)])) X16 hx rfl rfl rfl (pc0 := 72) (pc' := 75) (same := true) rfl (hb hby d1_72) rfl (decide_eq_true (congrArg Value.ref c72_17)) (by decide) (by decide) k) ?_
                  refine Dn.by (U' := T16.setTop (mkF m 76 #[.val (.ref o0), .val (.int p1), .val (.int (1 : Int32))] [(.int (1 : Int32))])) (fun _ k => XS.iloadN X16.here hx rfl (hb hby d1_75) rfl k) ?_
                  refine Dn.by (U' := T16.setTop (mkF m 79 #[.val (.ref o0), .val (.int p1), .val (.int (1 : Int32))] [])) (fun _ k => XS.ifNo X16.here hx rfl (hb hby d1_76) rfl (by decide) k) ?_
                  refine Dn.by (U' := T16.setTop (mkF m 80 #[.val (.ref o0), .val (.int p1), .val (.int (1 : Int32))] [(.int (1 : Int32))])) (fun _ k => XS.iconst X16.here hx rfl (hb hby d1_79)  k) ?_
                  refine Dn.by (U' := T16.setTop (mkF m 84 #[.val (.ref o0), .val (.int p1), .val (.int (1 : Int32))] [(.int (1 : Int32))])) (fun _ k => XS.goto X16.here hx rfl (pc0 := 80) (pc' := 84) rfl (hb hby d1_80) (by decide) (by decide) k) ?_
                  refine Dn.out X16 (v := (some (.int (1 : Int32)))) (fun h => by rw [Bd.returns] at h; cases h) (BodyLoose.notSynchronized Bd) (fun _ hr => retN X16 hx (t := .boolean) Bd.returns (by simp) (hb hby d1_84) hr) (by decide) (by decide) ?_
                  rw [e16]
                  exact ⟨by simp only [hor, if_pos c2_1, if_neg c14_2, if_neg c20_5, if_pos c26_8, if_pos c38_9, if_neg c52_10, if_neg c59_13, if_pos c72_17], N0, rfl⟩
                ·
                  refine Dn.by (U' := T16.setTop (mkF m 83 #[.val (.ref o0), .val (.int p1), .val (.int (1 : Int32))] [])) (fun _ k => Jvm.RoadKit.acmp (g := (mkF m 72 #[.val (.ref o0), .val (.int p1), .val (.int (1 : Int32))] [(.ref s_XML_1_1), (.ref o0)])) X16 hx rfl rfl rfl (pc0 := 72) (pc' := 83) (same := false) rfl (hb hby d1_72) rfl (decide_eq_false fun q => c72_17 (Value.ref.inj q)) (by decide) (by decide) k) ?_
                  refine Dn.by (U' := T16.setTop (mkF m 84 #[.val (.ref o0), .val (.int p1), .val (.int (1 : Int32))] [(.int (0 : Int32))])) (fun _ k => XS.iconst X16.here hx rfl (hb hby d1_83)  k) ?_
                  refine Dn.out X16 (v := (some (.int (0 : Int32)))) (fun h => by rw [Bd.returns] at h; cases h) (BodyLoose.notSynchronized Bd) (fun _ hr => retN X16 hx (t := .boolean) Bd.returns (by simp) (hb hby d1_84) hr) (by decide) (by decide) ?_
                  rw [e16]
                  exact ⟨by simp only [hor, if_pos c2_1, if_neg c14_2, if_neg c20_5, if_pos c26_8, if_pos c38_9, if_neg c52_10, if_neg c59_13, if_neg c72_17], N0, rfl⟩
          ·
            refine Dn.by (U' := s₁.setTop (mkF m 41 #[.val (.ref o0), .val (.int p1), .unset] [])) (fun _ k => XS.icmpNo X0.here hx rfl (hb hby d1_38) rfl (flt c38_9).1 k) ?_
            refine Dn.by (U' := s₁.setTop (mkF m 42 #[.val (.ref o0), .val (.int p1), .unset] [(.int p1)])) (fun _ k => XS.iloadN X0.here hx rfl (hb hby d1_41) rfl k) ?_
            refine Dn.by (U' := s₁.setTop (mkF m 45 #[.val (.ref o0), .val (.int p1), .unset] [(.int (132 : Int32)), (.int p1)])) (fun _ k => XS.sipush X0.here hx rfl (hb hby d1_42)  k) ?_
            by_cases c45_18 : (132 : Int32) < p1
            ·
              refine Dn.by (U' := s₁.setTop (mkF m 48 #[.val (.ref o0), .val (.int p1), .unset] [])) (fun _ k => XS.icmpNo X0.here hx rfl (hb hby d1_45) rfl (tlt c45_18).2.2.2 k) ?_
              refine Dn.by (U' := s₁.setTop (mkF m 49 #[.val (.ref o0), .val (.int p1), .unset] [(.int p1)])) (fun _ k => XS.iloadN X0.here hx rfl (hb hby d1_48) rfl k) ?_
              refine Dn.by (U' := s₁.setTop (mkF m 52 #[.val (.ref o0), .val (.int p1), .unset] [(.int (134 : Int32)), (.int p1)])) (fun _ k => XS.sipush X0.here hx rfl (hb hby d1_49)  k) ?_
              by_cases c52_19 : p1 < (134 : Int32)
              ·
                refine Dn.by (U' := s₁.setTop (mkF m 66 #[.val (.ref o0), .val (.int p1), .unset] [])) (fun _ k => XS.icmpYes X0.here hx rfl (pc0 := 52) (pc' := 66) rfl (hb hby d1_52) rfl (tlt c52_19).1 (by decide) (by decide) k) ?_
                refine Dn.by (U' := s₁.setTop (mkF m 67 #[.val (.ref o0), .val (.int p1), .unset] [(.int (0 : Int32))])) (fun _ k => XS.iconst X0.here hx rfl (hb hby d1_66)  k) ?_
                refine Dn.by (U' := s₁.setTop (mkF m 68 #[.val (.ref o0), .val (.int p1), .val (.int (0 : Int32))] [])) (fun _ k => XS.istoreN X0.here hx rfl (hb hby d1_67) rfl (l' := #[.val (.ref o0), .val (.int p1), .val (.int (0 : Int32))]) rfl k) ?_
                refine Dn.by (U' := s₁.setTop (mkF m 69 #[.val (.ref o0), .val (.int p1), .val (.int (0 : Int32))] [(.ref o0)])) (fun _ k => XS.aloadN X0.here hx rfl (hb hby d1_68) rfl rfl k) ?_
                obtain ⟨T20, X20, e20, st20⟩ := getS2 X0 hx hZ (a0 := a0) hown (host := "") (Or.inl (hw _ (List.mem_of_getElem? (i := 8) rfl))) Via.refl e0 S_XML_1_1 (g := (mkF m 69 #[.val (.ref o0), .val (.int p1), .val (.int (0 : Int32))] [(.ref o0)])) rfl (hb hby d1_69)
                refine Dn.by (U' := T20.setTop (mkF m 72 #[.val (.ref o0), .val (.int p1), .val (.int (0 : Int32))] [(.ref s_XML_1_1), (.ref o0)])) st20 ?_
                by_cases c72_21 : o0 = s_XML_1_1
                ·
                  refine Dn.by (U' := T20.setTop (mkF m 75 #[.val (.ref o0), .val (.int p1), .val (.int (0 : Int32))] [])) (fun _ k => Jvm.RoadKit.acmp (g := (mkF m 72 #[.val (.ref o0), .val (.int p1), .val (.int (0 : Int32))] [(.ref s_XML_1_1), (.ref o0)])) X20 hx rfl rfl rfl (pc0 := 72) (pc' := 75) (same := true) rfl (hb hby d1_72) rfl (decide_eq_true (congrArg Value.ref c72_21)) (by decide) (by decide) k) ?_
                  refine Dn.by (U' := T20.setTop (mkF m 76 #[.val (.ref o0), .val (.int p1), .val (.int (0 : Int32))] [(.int (0 : Int32))])) (fun _ k => XS.iloadN X20.here hx rfl (hb hby d1_75) rfl k) ?_
                  refine Dn.by (U' := T20.setTop (mkF m 83 #[.val (.ref o0), .val (.int p1), .val (.int (0 : Int32))] [])) (fun _ k => XS.ifYes X20.here hx rfl (pc0 := 76) (pc' := 83) rfl (hb hby d1_76) rfl (by decide) (by decide) (by decide) k) ?_
                  refine Dn.by (U' := T20.setTop (mkF m 84 #[.val (.ref o0), .val (.int p1), .val (.int (0 : Int32))] [(.int (0 : Int32))])) (fun _ k => XS.iconst X20.here hx rfl (hb hby d1_83)  k) ?_
                  refine Dn.out X20 (v := (some (.int (0 : Int32)))) (fun h => by rw [Bd.returns] at h; cases h) (BodyLoose.notSynchronized Bd) (fun _ hr => retN X20 hx (t := .boolean) Bd.returns (by simp) (hb hby d1_84) hr) (by decide) (by decide) ?_
                  rw [e20]
                  exact ⟨by simp only [hor, if_pos c2_1, if_neg c14_2, if_neg c20_5, if_pos c26_8, if_neg c38_9, if_pos c45_18, if_pos c52_19, if_pos c72_21], N0, rfl⟩
                ·
                  refine Dn.by (U' := T20.setTop (mkF m 83 #[.val (.ref o0), .val (.int p1), .val (.int (0 : Int32))] [])) (fun _ k => Jvm.RoadKit.acmp (g := (mkF m 72 #[.val (.ref o0), .val (.int p1), .val (.int (0 : Int32))] [(.ref s_XML_1_1), (.ref o0)])) X20 hx rfl rfl rfl (pc0 := 72) (pc' := 83) (same := false) rfl (hb hby d1_72) rfl (decide_eq_false fun q => c72_21 (Value.ref.inj q)) (by decide) (by decide) k) ?_
                  refine Dn.by (U' := T20.setTop (mkF m 84 #[.val (.ref o0), .val (.int p1), .val (.int (0 : Int32))] [(.int (0 : Int32))])) (fun _ k => XS.iconst X20.here hx rfl (hb hby d1_83)  k) ?_
                  refine Dn.out X20 (v := (some (.int (0 : Int32)))) (fun h => by rw [Bd.returns] at h; cases h) (BodyLoose.notSynchronized Bd) (fun _ hr => retN X20 hx (t := .boolean) Bd.returns (by simp) (hb hby d1_84) hr) (by decide) (by decide) ?_
                  rw [e20]
                  exact ⟨by simp only [hor, if_pos c2_1, if_neg c14_2, if_neg c20_5, if_pos c26_8, if_neg c38_9, if_pos c45_18, if_pos c52_19, if_neg c72_21], N0, rfl⟩
              ·
                refine Dn.by (U' := s₁.setTop (mkF m 55 #[.val (.ref o0), .val (.int p1), .unset] [])) (fun _ k => XS.icmpNo X0.here hx rfl (hb hby d1_52) rfl (flt c52_19).1 k) ?_
                refine Dn.by (U' := s₁.setTop (mkF m 56 #[.val (.ref o0), .val (.int p1), .unset] [(.int p1)])) (fun _ k => XS.iloadN X0.here hx rfl (hb hby d1_55) rfl k) ?_
                refine Dn.by (U' := s₁.setTop (mkF m 59 #[.val (.ref o0), .val (.int p1), .unset] [(.int (159 : Int32)), (.int p1)])) (fun _ k => XS.sipush X0.here hx rfl (hb hby d1_56)  k) ?_
                by_cases c59_22 : (159 : Int32) < p1
                ·
                  refine Dn.by (U' := s₁.setTop (mkF m 66 #[.val (.ref o0), .val (.int p1), .unset] [])) (fun _ k => XS.icmpYes X0.here hx rfl (pc0 := 59) (pc' := 66) rfl (hb hby d1_59) rfl (tlt c59_22).2.2.1 (by decide) (by decide) k) ?_
                  refine Dn.by (U' := s₁.setTop (mkF m 67 #[.val (.ref o0), .val (.int p1), .unset] [(.int (0 : Int32))])) (fun _ k => XS.iconst X0.here hx rfl (hb hby d1_66)  k) ?_
                  refine Dn.by (U' := s₁.setTop (mkF m 68 #[.val (.ref o0), .val (.int p1), .val (.int (0 : Int32))] [])) (fun _ k => XS.istoreN X0.here hx rfl (hb hby d1_67) rfl (l' := #[.val (.ref o0), .val (.int p1), .val (.int (0 : Int32))]) rfl k) ?_
                  refine Dn.by (U' := s₁.setTop (mkF m 69 #[.val (.ref o0), .val (.int p1), .val (.int (0 : Int32))] [(.ref o0)])) (fun _ k => XS.aloadN X0.here hx rfl (hb hby d1_68) rfl rfl k) ?_
                  obtain ⟨T23, X23, e23, st23⟩ := getS2 X0 hx hZ (a0 := a0) hown (host := "") (Or.inl (hw _ (List.mem_of_getElem? (i := 8) rfl))) Via.refl e0 S_XML_1_1 (g := (mkF m 69 #[.val (.ref o0), .val (.int p1), .val (.int (0 : Int32))] [(.ref o0)])) rfl (hb hby d1_69)
                  refine Dn.by (U' := T23.setTop (mkF m 72 #[.val (.ref o0), .val (.int p1), .val (.int (0 : Int32))] [(.ref s_XML_1_1), (.ref o0)])) st23 ?_
                  by_cases c72_24 : o0 = s_XML_1_1
                  ·
                    refine Dn.by (U' := T23.setTop (mkF m 75 #[.val (.ref o0), .val (.int p1), .val (.int (0 : Int32))] [])) (fun _ k => Jvm.RoadKit.acmp (g := (mkF m 72 #[.val (.ref o0), .val (.int p1), .val (.int (0 : Int32))] [(.ref s_XML_1_1), (.ref o0)])) X23 hx rfl rfl rfl (pc0 := 72) (pc' := 75) (same := true) rfl (hb hby d1_72) rfl (decide_eq_true (congrArg Value.ref c72_24)) (by decide) (by decide) k) ?_
                    refine Dn.by (U' := T23.setTop (mkF m 76 #[.val (.ref o0), .val (.int p1), .val (.int (0 : Int32))] [(.int (0 : Int32))])) (fun _ k => XS.iloadN X23.here hx rfl (hb hby d1_75) rfl k) ?_
                    refine Dn.by (U' := T23.setTop (mkF m 83 #[.val (.ref o0), .val (.int p1), .val (.int (0 : Int32))] [])) (fun _ k => XS.ifYes X23.here hx rfl (pc0 := 76) (pc' := 83) rfl (hb hby d1_76) rfl (by decide) (by decide) (by decide) k) ?_
                    refine Dn.by (U' := T23.setTop (mkF m 84 #[.val (.ref o0), .val (.int p1), .val (.int (0 : Int32))] [(.int (0 : Int32))])) (fun _ k => XS.iconst X23.here hx rfl (hb hby d1_83)  k) ?_
                    refine Dn.out X23 (v := (some (.int (0 : Int32)))) (fun h => by rw [Bd.returns] at h; cases h) (BodyLoose.notSynchronized Bd) (fun _ hr => retN X23 hx (t := .boolean) Bd.returns (by simp) (hb hby d1_84) hr) (by decide) (by decide) ?_
                    rw [e23]
                    exact ⟨by simp only [hor, if_pos c2_1, if_neg c14_2, if_neg c20_5, if_pos c26_8, if_neg c38_9, if_pos c45_18, if_neg c52_19, if_pos c59_22, if_pos c72_24], N0, rfl⟩
                  ·
                    refine Dn.by (U' := T23.setTop (mkF m 83 #[.val (.ref o0), .val (.int p1), .val (.int (0 : Int32))] [])) (fun _ k => Jvm.RoadKit.acmp (g := (mkF m 72 #[.val (.ref o0), .val (.int p1), .val (.int (0 : Int32))] [(.ref s_XML_1_1), (.ref o0)])) X23 hx rfl rfl rfl (pc0 := 72) (pc' := 83) (same := false) rfl (hb hby d1_72) rfl (decide_eq_false fun q => c72_24 (Value.ref.inj q)) (by decide) (by decide) k) ?_
                    refine Dn.by (U' := T23.setTop (mkF m 84 #[.val (.ref o0), .val (.int p1), .val (.int (0 : Int32))] [(.int (0 : Int32))])) (fun _ k => XS.iconst X23.here hx rfl (hb hby d1_83)  k) ?_
                    refine Dn.out X23 (v := (some (.int (0 : Int32)))) (fun h => by rw [Bd.returns] at h; cases h) (BodyLoose.notSynchronized Bd) (fun _ hr => retN X23 hx (t := .boolean) Bd.returns (by simp) (hb hby d1_84) hr) (by decide) (by decide) ?_
                    rw [e23]
                    exact ⟨by simp only [hor, if_pos c2_1, if_neg c14_2, if_neg c20_5, if_pos c26_8, if_neg c38_9, if_pos c45_18, if_neg c52_19, if_pos c59_22, if_neg c72_24], N0, rfl⟩
                ·
                  refine Dn.by (U' := s₁.setTop (mkF m 62 #[.val (.ref o0), .val (.int p1), .unset] [])) (fun _ k => XS.icmpNo X0.here hx rfl (hb hby d1_59) rfl (flt c59_22).2.2.1 k) ?_
                  refine Dn.by (U' := s₁.setTop (mkF m 63 #[.val (.ref o0), .val (.int p1), .unset] [(.int (1 : Int32))])) (fun _ k => XS.iconst X0.here hx rfl (hb hby d1_62)  k) ?_
                  refine Dn.by (U' := s₁.setTop (mkF m 67 #[.val (.ref o0), .val (.int p1), .unset] [(.int (1 : Int32))])) (fun _ k => XS.goto X0.here hx rfl (pc0 := 63) (pc' := 67) rfl (hb hby d1_63) (by decide) (by decide) k) ?_
                  refine Dn.by (U' := s₁.setTop (mkF m 68 #[.val (.ref o0), .val (.int p1), .val (.int (1 : Int32))] [])) (fun _ k => XS.istoreN X0.here hx rfl (hb hby d1_67) rfl (l' := #[.val (.ref o0), .val (.int p1), .val (.int (1 : Int32))]) rfl k) ?_
                  refine Dn.by (U' := s₁.setTop (mkF m 69 #[.val (.ref o0), .val (.int p1), .val (.int (1 : Int32))] [(.ref o0)])) (fun _ k => XS.aloadN X0.here hx rfl (hb hby d1_68) rfl rfl k) ?_
                  obtain ⟨T25, X25, e25, st25⟩ := getS2 X0 hx hZ (a0 := a0) hown (host := "") (Or.inl (hw _ (List.mem_of_getElem? (i := 8) rfl))) Via.refl e0 S_XML_1_1 (g := (mkF m 69 #[.val (.ref o0), .val (.int p1), .val (.int (1 : Int32))] [(.ref o0)])) rfl (hb hby d1_69)
                  refine Dn.by (U' := T25.setTop (mkF m 72 #[.val (.ref o0), .val (.int p1), .val (.int (1 : Int32))] [(.ref s_XML_1_1), (.ref o0)])) st25 ?_
                  by_cases c72_26 : o0 = s_XML_1_1
                  ·
                    refine Dn.by (U' := T25.setTop (mkF m 75 #[.val (.ref o0), .val (.int p1), .val (.int (1 : Int32))] [])) (fun _ k => Jvm.RoadKit.acmp (g := (mkF m 72 #[.val (.ref o0), .val (.int p1), .val (.int (1 : Int32))] [(.ref s_XML_1_1), (.ref o0)])) X25 hx rfl rfl rfl (pc0 := 72) (pc' := 75) (same := true) rfl (hb hby d1_72) rfl (decide_eq_true (congrArg Value.ref c72_26)) (by decide) (by decide) k) ?_
                    refine Dn.by (U' := T25.setTop (mkF m 76 #[.val (.ref o0), .val (.int p1), .val (.int (1 : Int32))] [(.int (1 : Int32))])) (fun _ k => XS.iloadN X25.here hx rfl (hb hby d1_75) rfl k) ?_
                    refine Dn.by (U' := T25.setTop (mkF m 79 #[.val (.ref o0), .val (.int p1), .val (.int (1 : Int32))] [])) (fun _ k => XS.ifNo X25.here hx rfl (hb hby d1_76) rfl (by decide) k) ?_
                    refine Dn.by (U' := T25.setTop (mkF m 80 #[.val (.ref o0), .val (.int p1), .val (.int (1 : Int32))] [(.int (1 : Int32))])) (fun _ k => XS.iconst X25.here hx rfl (hb hby d1_79)  k) ?_
                    refine Dn.by (U' := T25.setTop (mkF m 84 #[.val (.ref o0), .val (.int p1), .val (.int (1 : Int32))] [(.int (1 : Int32))])) (fun _ k => XS.goto X25.here hx rfl (pc0 := 80) (pc' := 84) rfl (hb hby d1_80) (by decide) (by decide) k) ?_
                    refine Dn.out X25 (v := (some (.int (1 : Int32)))) (fun h => by rw [Bd.returns] at h; cases h) (BodyLoose.notSynchronized Bd) (fun _ hr => retN X25 hx (t := .boolean) Bd.returns (by simp) (hb hby d1_84) hr) (by decide) (by decide) ?_
                    rw [e25]
                    exact ⟨by simp only [hor, if_pos c2_1, if_neg c14_2, if_neg c20_5, if_pos c26_8, if_neg c38_9, if_pos c45_18, if_neg c52_19, if_neg c59_22, if_pos c72_26], N0, rfl⟩
                  ·
                    refine Dn.by (U' := T25.setTop (mkF m 83 #[.val (.ref o0), .val (.int p1), .val (.int (1 : Int32))] [])) (fun _ k => Jvm.RoadKit.acmp (g := (mkF m 72 #[.val (.ref o0), .val (.int p1), .val (.int (1 : Int32))] [(.ref s_XML_1_1), (.ref o0)])) X25 hx rfl rfl rfl (pc0 := 72) (pc' := 83) (same := false) rfl (hb hby d1_72) rfl (decide_eq_false fun q => c72_26 (Value.ref.inj q)) (by decide) (by decide) k) ?_
                    refine Dn.by (U' := T25.setTop (mkF m 84 #[.val (.ref o0), .val (.int p1), .val (.int (1 : Int32))] [(.int (0 : Int32))])) (fun _ k => XS.iconst X25.here hx rfl (hb hby d1_83)  k) ?_
                    refine Dn.out X25 (v := (some (.int (0 : Int32)))) (fun h => by rw [Bd.returns] at h; cases h) (BodyLoose.notSynchronized Bd) (fun _ hr => retN X25 hx (t := .boolean) Bd.returns (by simp) (hb hby d1_84) hr) (by decide) (by decide) ?_
                    rw [e25]
                    exact ⟨by simp only [hor, if_pos c2_1, if_neg c14_2, if_neg c20_5, if_pos c26_8, if_neg c38_9, if_pos c45_18, if_neg c52_19, if_neg c59_22, if_neg c72_26], N0, rfl⟩
            ·
              refine Dn.by (U' := s₁.setTop (mkF m 62 #[.val (.ref o0), .val (.int p1), .unset] [])) (fun _ k => XS.icmpYes X0.here hx rfl (pc0 := 45) (pc' := 62) rfl (hb hby d1_45) rfl (flt c45_18).2.2.2 (by decide) (by decide) k) ?_
              refine Dn.by (U' := s₁.setTop (mkF m 63 #[.val (.ref o0), .val (.int p1), .unset] [(.int (1 : Int32))])) (fun _ k => XS.iconst X0.here hx rfl (hb hby d1_62)  k) ?_
              refine Dn.by (U' := s₁.setTop (mkF m 67 #[.val (.ref o0), .val (.int p1), .unset] [(.int (1 : Int32))])) (fun _ k => XS.goto X0.here hx rfl (pc0 := 63) (pc' := 67) rfl (hb hby d1_63) (by decide) (by decide) k) ?_
              refine Dn.by (U' := s₁.setTop (mkF m 68 #[.val (.ref o0), .val (.int p1), .val (.int (1 : Int32))] [])) (fun _ k => XS.istoreN X0.here hx rfl (hb hby d1_67) rfl (l' := #[.val (.ref o0), .val (.int p1), .val (.int (1 : Int32))]) rfl k) ?_
              refine Dn.by (U' := s₁.setTop (mkF m 69 #[.val (.ref o0), .val (.int p1), .val (.int (1 : Int32))] [(.ref o0)])) (fun _ k => XS.aloadN X0.here hx rfl (hb hby d1_68) rfl rfl k) ?_
              obtain ⟨T27, X27, e27, st27⟩ := getS2 X0 hx hZ (a0 := a0) hown (host := "") (Or.inl (hw _ (List.mem_of_getElem? (i := 8) rfl))) Via.refl e0 S_XML_1_1 (g := (mkF m 69 #[.val (.ref o0), .val (.int p1), .val (.int (1 : Int32))] [(.ref o0)])) rfl (hb hby d1_69)
              refine Dn.by (U' := T27.setTop (mkF m 72 #[.val (.ref o0), .val (.int p1), .val (.int (1 : Int32))] [(.ref s_XML_1_1), (.ref o0)])) st27 ?_
              by_cases c72_28 : o0 = s_XML_1_1
              ·
                refine Dn.by (U' := T27.setTop (mkF m 75 #[.val (.ref o0), .val (.int p1), .val (.int (1 : Int32))] [])) (fun _ k => Jvm.RoadKit.acmp (g := (mkF m 72 #[.val (.ref o0), .val (.int p1), .val (.int (1 : Int32))] [(.ref s_XML_1_1), (.ref o0)])) X27 hx rfl rfl rfl (pc0 := 72) (pc' := 75) (same := true) rfl (hb hby d1_72) rfl (decide_eq_true (congrArg Value.ref c72_28)) (by decide) (by decide) k) ?_
                refine Dn.by (U' := T27.setTop (mkF m 76 #[.val (.ref o0), .val (.int p1), .val (.int (1 : Int32))] [(.int (1 : Int32))])) (fun _ k => XS.iloadN X27.here hx rfl (hb hby d1_75) rfl k) ?_
                refine Dn.by (U' := T27.setTop (mkF m 79 #[.val (.ref o0), .val (.int p1), .val (.int (1 : Int32))] [])) (fun _ k => XS.ifNo X27.here hx rfl (hb hby d1_76) rfl (by decide) k) ?_
                refine Dn.by (U' := T27.setTop (mkF m 80 #[.val (.ref o0), .val (.int p1), .val (.int (1 : Int32))] [(.int (1 : Int32))])) (fun _ k => XS.iconst X27.here hx rfl (hb hby d1_79)  k) ?_
                refine Dn.by (U' := T27.setTop (mkF m 84 #[.val (.ref o0), .val (.int p1), .val (.int (1 : Int32))] [(.int (1 : Int32))])) (fun _ k => XS.goto X27.here hx rfl (pc0 := 80) (pc' := 84) rfl (hb hby d1_80) (by decide) (by decide) k) ?_
                refine Dn.out X27 (v := (some (.int (1 : Int32)))) (fun h => by rw [Bd.returns] at h; cases h) (BodyLoose.notSynchronized Bd) (fun _ hr => retN X27 hx (t := .boolean) Bd.returns (by simp) (hb hby d1_84) hr) (by decide) (by decide) ?_
                rw [e27]
                exact ⟨by simp only [hor, if_pos c2_1, if_neg c14_2, if_neg c20_5, if_pos c26_8, if_neg c38_9, if_neg c45_18, if_pos c72_28], N0, rfl⟩
              ·
                refine Dn.by (U' := T27.setTop (mkF m 83 #[.val (.ref o0), .val (.int p1), .val (.int (1 : Int32))] [])) (fun _ k => Jvm.RoadKit.acmp (g := (mkF m 72 #[.val (.ref o0), .val (.int p1), .val (.int (1 : Int32))] [(.ref s_XML_1_1), (.ref o0)])) X27 hx rfl rfl rfl (pc0 := 72) (pc' := 83) (same := false) rfl (hb hby d1_72) rfl (decide_eq_false fun q => c72_28 (Value.ref.inj q)) (by decide) (by decide) k) ?_
                refine Dn.by (U' := T27.setTop (mkF m 84 #[.val (.ref o0), .val (.int p1), .val (.int (1 : Int32))] [(.int (0 : Int32))])) (fun _ k => XS.iconst X27.here hx rfl (hb hby d1_83)  k) ?_
                refine Dn.out X27 (v := (some (.int (0 : Int32)))) (fun h => by rw [Bd.returns] at h; cases h) (BodyLoose.notSynchronized Bd) (fun _ hr => retN X27 hx (t := .boolean) Bd.returns (by simp) (hb hby d1_84) hr) (by decide) (by decide) ?_
                rw [e27]
                exact ⟨by simp only [hor, if_pos c2_1, if_neg c14_2, if_neg c20_5, if_pos c26_8, if_neg c38_9, if_neg c45_18, if_neg c72_28], N0, rfl⟩
        ·
          refine Dn.by (U' := s₁.setTop (mkF m 29 #[.val (.ref o0), .val (.int p1), .unset] [])) (fun _ k => XS.icmpNo X0.here hx rfl (hb hby d1_26) rfl (flt c26_8).1 k) ?_
          refine Dn.by (U' := s₁.setTop (mkF m 30 #[.val (.ref o0), .val (.int p1), .unset] [(.int p1)])) (fun _ k => XS.iloadN X0.here hx rfl (hb hby d1_29) rfl k) ?_
          refine Dn.by (U' := s₁.setTop (mkF m 32 #[.val (.ref o0), .val (.int p1), .unset] [(.int (31 : Int32)), (.int p1)])) (fun _ k => XS.bipush X0.here hx rfl (hb hby d1_30)  k) ?_
          by_cases c32_29 : (31 : Int32) < p1
          ·
            refine Dn.by (U' := s₁.setTop (mkF m 35 #[.val (.ref o0), .val (.int p1), .unset] [])) (fun _ k => XS.icmpNo X0.here hx rfl (hb hby d1_32) rfl (tlt c32_29).2.2.2 k) ?_
            refine Dn.by (U' := s₁.setTop (mkF m 36 #[.val (.ref o0), .val (.int p1), .unset] [(.int p1)])) (fun _ k => XS.iloadN X0.here hx rfl (hb hby d1_35) rfl k) ?_
            refine Dn.by (U' := s₁.setTop (mkF m 38 #[.val (.ref o0), .val (.int p1), .unset] [(.int (127 : Int32)), (.int p1)])) (fun _ k => XS.bipush X0.here hx rfl (hb hby d1_36)  k) ?_
            by_cases c38_30 : p1 < (127 : Int32)
            ·
              refine Dn.by (U' := s₁.setTop (mkF m 48 #[.val (.ref o0), .val (.int p1), .unset] [])) (fun _ k => XS.icmpYes X0.here hx rfl (pc0 := 38) (pc' := 48) rfl (hb hby d1_38) rfl (tlt c38_30).1 (by decide) (by decide) k) ?_
              refine Dn.by (U' := s₁.setTop (mkF m 49 #[.val (.ref o0), .val (.int p1), .unset] [(.int p1)])) (fun _ k => XS.iloadN X0.here hx rfl (hb hby d1_48) rfl k) ?_
              refine Dn.by (U' := s₁.setTop (mkF m 52 #[.val (.ref o0), .val (.int p1), .unset] [(.int (134 : Int32)), (.int p1)])) (fun _ k => XS.sipush X0.here hx rfl (hb hby d1_49)  k) ?_
              by_cases c52_31 : p1 < (134 : Int32)
              ·
                refine Dn.by (U' := s₁.setTop (mkF m 66 #[.val (.ref o0), .val (.int p1), .unset] [])) (fun _ k => XS.icmpYes X0.here hx rfl (pc0 := 52) (pc' := 66) rfl (hb hby d1_52) rfl (tlt c52_31).1 (by decide) (by decide) k) ?_
                refine Dn.by (U' := s₁.setTop (mkF m 67 #[.val (.ref o0), .val (.int p1), .unset] [(.int (0 : Int32))])) (fun _ k => XS.iconst X0.here hx rfl (hb hby d1_66)  k) ?_
                refine Dn.by (U' := s₁.setTop (mkF m 68 #[.val (.ref o0), .val (.int p1), .val (.int (0 : Int32))] [])) (fun _ k => XS.istoreN X0.here hx rfl (hb hby d1_67) rfl (l' := #[.val (.ref o0), .val (.int p1), .val (.int (0 : Int32))]) rfl k) ?_
                refine Dn.by (U' := s₁.setTop (mkF m 69 #[.val (.ref o0), .val (.int p1), .val (.int (0 : Int32))] [(.ref o0)])) (fun _ k => XS.aloadN X0.here hx rfl (hb hby d1_68) rfl rfl k) ?_
                obtain ⟨T32, X32, e32, st32⟩ := getS2 X0 hx hZ (a0 := a0) hown (host := "") (Or.inl (hw _ (List.mem_of_getElem? (i := 8) rfl))) Via.refl e0 S_XML_1_1 (g := (mkF m 69 #[.val (.ref o0), .val (.int p1), .val (.int (0 : Int32))] [(.ref o0)])) rfl (hb hby d1_69)
                refine Dn.by (U' := T32.setTop (mkF m 72 #[.val (.ref o0), .val (.int p1), .val (.int (0 : Int32))] [(.ref s_XML_1_1), (.ref o0)])) st32 ?_
                by_cases c72_33 : o0 = s_XML_1_1
                ·
                  refine Dn.by (U' := T32.setTop (mkF m 75 #[.val (.ref o0), .val (.int p1), .val (.int (0 : Int32))] [])) (fun _ k => Jvm.RoadKit.acmp (g := (mkF m 72 #[.val (.ref o0), .val (.int p1), .val (.int (0 : Int32))] [(.ref s_XML_1_1), (.ref o0)])) X32 hx rfl rfl rfl (pc0 := 72) (pc' := 75) (same := true) rfl (hb hby d1_72) rfl (decide_eq_true (congrArg Value.ref c72_33)) (by decide) (by decide) k) ?_
                  refine Dn.by (U' := T32.setTop (mkF m 76 #[.val (.ref o0), .val (.int p1), .val (.int (0 : Int32))] [(.int (0 : Int32))])) (fun _ k => XS.iloadN X32.here hx rfl (hb hby d1_75) rfl k) ?_
                  refine Dn.by (U' := T32.setTop (mkF m 83 #[.val (.ref o0), .val (.int p1), .val (.int (0 : Int32))] [])) (fun _ k => XS.ifYes X32.here hx rfl (pc0 := 76) (pc' := 83) rfl (hb hby d1_76) rfl (by decide) (by decide) (by decide) k) ?_
                  refine Dn.by (U' := T32.setTop (mkF m 84 #[.val (.ref o0), .val (.int p1), .val (.int (0 : Int32))] [(.int (0 : Int32))])) (fun _ k => XS.iconst X32.here hx rfl (hb hby d1_83)  k) ?_
                  refine Dn.out X32 (v := (some (.int (0 : Int32)))) (fun h => by rw [Bd.returns] at h; cases h) (BodyLoose.notSynchronized Bd) (fun _ hr => retN X32 hx (t := .boolean) Bd.returns (by simp) (hb hby d1_84) hr) (by decide) (by decide) ?_
                  rw [e32]
                  exact ⟨by simp only [hor, if_pos c2_1, if_neg c14_2, if_neg c20_5, if_neg c26_8, if_pos c32_29, if_pos c38_30, if_pos c52_31, if_pos c72_33], N0, rfl⟩
                ·
                  refine Dn.by (U' := T32.setTop (mkF m 83 #[.val (.ref o0), .val (.int p1), .val (.int (0 : Int32))] [])) (fun _ k => Jvm.RoadKit.acmp (g := (mkF m 72 #[.val (.ref o0), .val (.int p1), .val (.int (0 : Int32))] [(.ref s_XML_1_1), (.ref o0)])) X32 hx rfl rfl rfl (pc0 := 72) (pc' := 83) (same := false) rfl (hb hby d1_72) rfl (decide_eq_false fun q => c72_33 (Value.ref.inj q)) (by decide) (by decide) k) ?_
                  refine Dn.by (U' := T32.setTop (mkF m 84 #[.val (.ref o0), .val (.int p1), .val (.int (0 : Int32))] [(.int (0 : Int32))])) (fun _ k => XS.iconst X32.here hx rfl (hb hby d1_83)  k) ?_
                  refine Dn.out X32 (v := (some (.int (0 : Int32)))) (fun h => by rw [Bd.returns] at h; cases h) (BodyLoose.notSynchronized Bd) (fun _ hr => retN X32 hx (t := .boolean) Bd.returns (by simp) (hb hby d1_84) hr) (by decide) (by decide) ?_
                  rw [e32]
                  exact ⟨by simp only [hor, if_pos c2_1, if_neg c14_2, if_neg c20_5, if_neg c26_8, if_pos c32_29, if_pos c38_30, if_pos c52_31, if_neg c72_33], N0, rfl⟩
              ·
                refine Dn.by (U' := s₁.setTop (mkF m 55 #[.val (.ref o0), .val (.int p1), .unset] [])) (fun _ k => XS.icmpNo X0.here hx rfl (hb hby d1_52) rfl (flt c52_31).1 k) ?_
                refine Dn.by (U' := s₁.setTop (mkF m 56 #[.val (.ref o0), .val (.int p1), .unset] [(.int p1)])) (fun _ k => XS.iloadN X0.here hx rfl (hb hby d1_55) rfl k) ?_
                refine Dn.by (U' := s₁.setTop (mkF m 59 #[.val (.ref o0), .val (.int p1), .unset] [(.int (159 : Int32)), (.int p1)])) (fun _ k => XS.sipush X0.here hx rfl (hb hby d1_56)  k) ?_
                by_cases c59_34 : (159 : Int32) < p1
                ·
                  refine Dn.by (U' := s₁.setTop (mkF m 66 #[.val (.ref o0), .val (.int p1), .unset] [])) (fun _ k => XS.icmpYes X0.here hx rfl (pc0 := 59) (pc' := 66) rfl (hb hby d1_59) rfl (tlt c59_34).2.2.1 (by decide) (by decide) k) ?_
                  refine Dn.by (U' := s₁.setTop (mkF m 67 #[.val (.ref o0), .val (.int p1), .unset] [(.int (0 : Int32))])) (fun _ k => XS.iconst X0.here hx rfl (hb hby d1_66)  k) ?_
                  refine Dn.by (U' := s₁.setTop (mkF m 68 #[.val (.ref o0), .val (.int p1), .val (.int (0 : Int32))] [])) (fun _ k => XS.istoreN X0.here hx rfl (hb hby d1_67) rfl (l' := #[.val (.ref o0), .val (.int p1), .val (.int (0 : Int32))]) rfl k) ?_
                  refine Dn.by (U' := s₁.setTop (mkF m 69 #[.val (.ref o0), .val (.int p1), .val (.int (0 : Int32))] [(.ref o0)])) (fun _ k => XS.aloadN X0.here hx rfl (hb hby d1_68) rfl rfl k) ?_
                  obtain ⟨T35, X35, e35, st35⟩ := getS2 X0 hx hZ (a0 := a0) hown (host := "") (Or.inl (hw _ (List.mem_of_getElem? (i := 8) rfl))) Via.refl e0 S_XML_1_1 (g := (mkF m 69 #[.val (.ref o0), .val (.int p1), .val (.int (0 : Int32))] [(.ref o0)])) rfl (hb hby d1_69)
                  refine Dn.by (U' := T35.setTop (mkF m 72 #[.val (.ref o0), .val (.int p1), .val (.int (0 : Int32))] [(.ref s_XML_1_1), (.ref o0)])) st35 ?_
                  by_cases c72_36 : o0 = s_XML_1_1
                  ·
                    refine Dn.by (U' := T35.setTop (mkF m 75 #[.val (.ref o0), .val (.int p1), .val (.int (0 : Int32))] [])) (fun _ k => Jvm.RoadKit.acmp (g := (mkF m 72 #[.val (.ref o0), .val (.int p1), .val (.int (0 : Int32))] [(.ref s_XML_1_1), (.ref o0)])) X35 hx rfl rfl rfl (pc0 := 72) (pc' := 75) (same := true) rfl (hb hby d1_72) rfl (decide_eq_true (congrArg Value.ref c72_36)) (by decide) (by decide) k) ?_
                    refine Dn.by (U' := T35.setTop (mkF m 76 #[.val (.ref o0), .val (.int p1), .val (.int (0 : Int32))] [(.int (0 : Int32))])) (fun _ k => XS.iloadN X35.here hx rfl (hb hby d1_75) rfl k) ?_
                    refine Dn.by (U' := T35.setTop (mkF m 83 #[.val (.ref o0), .val (.int p1), .val (.int (0 : Int32))] [])) (fun _ k => XS.ifYes X35.here hx rfl (pc0 := 76) (pc' := 83) rfl (hb hby d1_76) rfl (by decide) (by decide) (by decide) k) ?_
                    refine Dn.by (U' := T35.setTop (mkF m 84 #[.val (.ref o0), .val (.int p1), .val (.int (0 : Int32))] [(.int (0 : Int32))])) (fun _ k => XS.iconst X35.here hx rfl (hb hby d1_83)  k) ?_
                    refine Dn.out X35 (v := (some (.int (0 : Int32)))) (fun h => by rw [Bd.returns] at h; cases h) (BodyLoose.notSynchronized Bd) (fun _ hr => retN X35 hx (t := .boolean) Bd.returns (by simp) (hb hby d1_84) hr) (by decide) (by decide) ?_
                    rw [e35]
                    exact ⟨by simp only [hor, if_pos c2_1, if_neg c14_2, if_neg c20_5, if_neg c26_8, if_pos c32_29, if_pos c38_30, if_neg c52_31, if_pos c59_34, if_pos c72_36], N0, rfl⟩
                  ·
                    refine Dn.by (U' := T35.setTop (mkF m 83 #[.val (.ref o0), .val (.int p1), .val (.int (0 : Int32))] [])) (fun _ k => Jvm.RoadKit.acmp (g := (mkF m 72 #[.val (.ref o0), .val (.int p1), .val (.int (0 : Int32))] [(.ref s_XML_1_1), (.ref o0)])) X35 hx rfl rfl rfl (pc0 := 72) (pc' := 83) (same := false) rfl (hb hby d1_72) rfl (decide_eq_false fun q => c72_36 (Value.ref.inj q)) (by decide) (by decide) k) ?_
                    refine Dn.by (U' := T35.setTop (mkF m 84 #[.val (.ref o0), .val (.int p1), .val (.int (0 : Int32))] [(.int (0 : Int32))])) (fun _ k => XS.iconst X35.here hx rfl (hb hby d1_83)  k) ?_
                    refine Dn.out X35 (v := (some (.int (0 : Int32)))) (fun h => by rw [Bd.returns] at h; cases h) (BodyLoose.notSynchronized Bd) (fun _ hr => retN X35 hx (t := .boolean) Bd.returns (by simp) (hb hby d1_84) hr) (by decide) (by decide) ?_
                    rw [e35]
                    exact ⟨by simp only [hor, if_pos c2_1, if_neg c14_2, if_neg c20_5, if_neg c26_8, if_pos c32_29, if_pos c38_30, if_neg c52_31, if_pos c59_34, if_neg c72_36], N0, rfl⟩
                ·
                  refine Dn.by (U' := s₁.setTop (mkF m 62 #[.val (.ref o0), .val (.int p1), .unset] [])) (fun _ k => XS.icmpNo X0.here hx rfl (hb hby d1_59) rfl (flt c59_34).2.2.1 k) ?_
                  refine Dn.by (U' := s₁.setTop (mkF m 63 #[.val (.ref o0), .val (.int p1), .unset] [(.int (1 : Int32))])) (fun _ k => XS.iconst X0.here hx rfl (hb hby d1_62)  k) ?_
                  refine Dn.by (U' := s₁.setTop (mkF m 67 #[.val (.ref o0), .val (.int p1), .unset] [(.int (1 : Int32))])) (fun _ k => XS.goto X0.here hx rfl (pc0 := 63) (pc' := 67) rfl (hb hby d1_63) (by decide) (by decide) k) ?_
                  refine Dn.by (U' := s₁.setTop (mkF m 68 #[.val (.ref o0), .val (.int p1), .val (.int (1 : Int32))] [])) (fun _ k => XS.istoreN X0.here hx rfl (hb hby d1_67) rfl (l' := #[.val (.ref o0), .val (.int p1), .val (.int (1 : Int32))]) rfl k) ?_
                  refine Dn.by (U' := s₁.setTop (mkF m 69 #[.val (.ref o0), .val (.int p1), .val (.int (1 : Int32))] [(.ref o0)])) (fun _ k => XS.aloadN X0.here hx rfl (hb hby d1_68) rfl rfl k) ?_
                  obtain ⟨T37, X37, e37, st37⟩ := getS2 X0 hx hZ (a0 := a0) hown (host := "") (Or.inl (hw _ (List.mem_of_getElem? (i := 8) rfl))) Via.refl e0 S_XML_1_1 (g := (mkF m 69 #[.val (.ref o0), .val (.int p1), .val (.int (1 : Int32))] [(.ref o0)])) rfl (hb hby d1_69)
                  refine Dn.by (U' := T37.setTop (mkF m 72 #[.val (.ref o0), .val (.int p1), .val (.int (1 : Int32))] [(.ref s_XML_1_1), (.ref o0)])) st37 ?_
                  by_cases c72_38 : o0 = s_XML_1_1
                  ·
                    refine Dn.by (U' := T37.setTop (mkF m 75 #[.val (.ref o0), .val (.int p1), .val (.int (1 : Int32))] [])) (fun _ k => Jvm.RoadKit.acmp (g := (mkF m 72 #[.val (.ref o0), .val (.int p1), .val (.int (1 : Int32))] [(.ref s_XML_1_1), (.ref o0)])) X37 hx rfl rfl rfl (pc0 := 72) (pc' := 75) (same := true) rfl (hb hby d1_72) rfl (decide_eq_true (congrArg Value.ref c72_38)) (by decide) (by decide) k) ?_
                    refine Dn.by (U' := T37.setTop (mkF m 76 #[.val (.ref o0), .val (.int p1), .val (.int (1 : Int32))] [(.int (1 : Int32))])) (fun _ k => XS.iloadN X37.here hx rfl (hb hby d1_75) rfl k) ?_
                    refine Dn.by (U' := T37.setTop (mkF m 79 #[.val (.ref o0), .val (.int p1), .val (.int (1 : Int32))] [])) (fun _ k => XS.ifNo X37.here hx rfl (hb hby d1_76) rfl (by decide) k) ?_
                    refine Dn.by (U' := T37.setTop (mkF m 80 #[.val (.ref o0), .val (.int p1), .val (.int (1 : Int32))] [(.int (1 : Int32))])) (fun _ k => XS.iconst X37.here hx rfl (hb hby d1_79)  k) ?_
                    refine Dn.by (U' := T37.setTop (mkF m 84 #[.val (.ref o0), .val (.int p1), .val (.int (1 : Int32))] [(.int (1 : Int32))])) (fun _ k => XS.goto X37.here hx rfl (pc0 := 80) (pc' := 84) rfl (hb hby d1_80) (by decide) (by decide) k) ?_
                    refine Dn.out X37 (v := (some (.int (1 : Int32)))) (fun h => by rw [Bd.returns] at h; cases h) (BodyLoose.notSynchronized Bd) (fun _ hr => retN X37 hx (t := .boolean) Bd.returns (by simp) (hb hby d1_84) hr) (by decide) (by decide) ?_
                    rw [e37]
                    exact ⟨by simp only [hor, if_pos c2_1, if_neg c14_2, if_neg c20_5, if_neg c26_8, if_pos c32_29, if_pos c38_30, if_neg c52_31, if_neg c59_34, if_pos c72_38], N0, rfl⟩
                  ·
                    refine Dn.by (U' := T37.setTop (mkF m 83 #[.val (.ref o0), .val (.int p1), .val (.int (1 : Int32))] [])) (fun _ k => Jvm.RoadKit.acmp (g := (mkF m 72 #[.val (.ref o0), .val (.int p1), .val (.int (1 : Int32))] [(.ref s_XML_1_1), (.ref o0)])) X37 hx rfl rfl rfl (pc0 := 72) (pc' := 83) (same := false) rfl (hb hby d1_72) rfl (decide_eq_false fun q => c72_38 (Value.ref.inj q)) (by decide) (by decide) k) ?_
                    refine Dn.by (U' := T37.setTop (mkF m 84 #[.val (.ref o0), .val (.int p1), .val (.int (1 : Int32))] [(.int (0 : Int32))])) (fun _ k => XS.iconst X37.here hx rfl (hb hby d1_83)  k) ?_
                    refine Dn.out X37 (v := (some (.int (0 : Int32)))) (fun h => by rw [Bd.returns] at h; cases h) (BodyLoose.notSynchronized Bd) (fun _ hr => retN X37 hx (t := .boolean) Bd.returns (by simp) (hb hby d1_84) hr) (by decide) (by decide) ?_
                    rw [e37]
                    exact ⟨by simp only [hor, if_pos c2_1, if_neg c14_2, if_neg c20_5, if_neg c26_8, if_pos c32_29, if_pos c38_30, if_neg c52_31, if_neg c59_34, if_neg c72_38], N0, rfl⟩
            ·
              refine Dn.by (U' := s₁.setTop (mkF m 41 #[.val (.ref o0), .val (.int p1), .unset] [])) (fun _ k => XS.icmpNo X0.here hx rfl (hb hby d1_38) rfl (flt c38_30).1 k) ?_
              refine Dn.by (U' := s₁.setTop (mkF m 42 #[.val (.ref o0), .val (.int p1), .unset] [(.int p1)])) (fun _ k => XS.iloadN X0.here hx rfl (hb hby d1_41) rfl k) ?_
              refine Dn.by (U' := s₁.setTop (mkF m 45 #[.val (.ref o0), .val (.int p1), .unset] [(.int (132 : Int32)), (.int p1)])) (fun _ k => XS.sipush X0.here hx rfl (hb hby d1_42)  k) ?_
              by_cases c45_39 : (132 : Int32) < p1
              ·
                refine Dn.by (U' := s₁.setTop (mkF m 48 #[.val (.ref o0), .val (.int p1), .unset] [])) (fun _ k => XS.icmpNo X0.here hx rfl (hb hby d1_45) rfl (tlt c45_39).2.2.2 k) ?_
                refine Dn.by (U' := s₁.setTop (mkF m 49 #[.val (.ref o0), .val (.int p1), .unset] [(.int p1)])) (fun _ k => XS.iloadN X0.here hx rfl (hb hby d1_48) rfl k) ?_
                refine Dn.by (U' := s₁.setTop (mkF m 52 #[.val (.ref o0), .val (.int p1), .unset] [(.int (134 : Int32)), (.int p1)])) (fun _ k => XS.sipush X0.here hx rfl (hb hby d1_49)  k) ?_
                by_cases c52_40 : p1 < (134 : Int32)
                ·
                  refine Dn.by (U' := s₁.setTop (mkF m 66 #[.val (.ref o0), .val (.int p1), .unset] [])) (fun _ k => XS.icmpYes X0.here hx rfl (pc0 := 52) (pc' := 66) rfl (hb hby d1_52) rfl (tlt c52_40).1 (by decide) (by decide) k) ?_
                  refine Dn.by (U' := s₁.setTop (mkF m 67 #[.val (.ref o0), .val (.int p1), .unset] [(.int (0 : Int32))])) (fun _ k => XS.iconst X0.here hx rfl (hb hby d1_66)  k) ?_
                  refine Dn.by (U' := s₁.setTop (mkF m 68 #[.val (.ref o0), .val (.int p1), .val (.int (0 : Int32))] [])) (fun _ k => XS.istoreN X0.here hx rfl (hb hby d1_67) rfl (l' := #[.val (.ref o0), .val (.int p1), .val (.int (0 : Int32))]) rfl k) ?_
                  refine Dn.by (U' := s₁.setTop (mkF m 69 #[.val (.ref o0), .val (.int p1), .val (.int (0 : Int32))] [(.ref o0)])) (fun _ k => XS.aloadN X0.here hx rfl (hb hby d1_68) rfl rfl k) ?_
                  obtain ⟨T41, X41, e41, st41⟩ := getS2 X0 hx hZ (a0 := a0) hown (host := "") (Or.inl (hw _ (List.mem_of_getElem? (i := 8) rfl))) Via.refl e0 S_XML_1_1 (g := (mkF m 69 #[.val (.ref o0), .val (.int p1), .val (.int (0 : Int32))] [(.ref o0)])) rfl (hb hby d1_69)
                  refine Dn.by (U' := T41.setTop (mkF m 72 #[.val (.ref o0), .val (.int p1), .val (.int (0 : Int32))] [(.ref s_XML_1_1), (.ref o0)])) st41 ?_
                  by_cases c72_42 : o0 = s_XML_1_1
                  ·
                    refine Dn.by (U' := T41.setTop (mkF m 75 #[.val (.ref o0), .val (.int p1), .val (.int (0 : Int32))] [])) (fun _ k => Jvm.RoadKit.acmp (g := (mkF m 72 #[.val (.ref o0), .val (.int p1), .val (.int (0 : Int32))] [(.ref s_XML_1_1), (.ref o0)])) X41 hx rfl rfl rfl (pc0 := 72) (pc' := 75) (same := true) rfl (hb hby d1_72) rfl (decide_eq_true (congrArg Value.ref c72_42)) (by decide) (by decide) k) ?_
                    refine Dn.by (U' := T41.setTop (mkF m 76 #[.val (.ref o0), .val (.int p1), .val (.int (0 : Int32))] [(.int (0 : Int32))])) (fun _ k => XS.iloadN X41.here hx rfl (hb hby d1_75) rfl k) ?_
                    refine Dn.by (U' := T41.setTop (mkF m 83 #[.val (.ref o0), .val (.int p1), .val (.int (0 : Int32))] [])) (fun _ k => XS.ifYes X41.here hx rfl (pc0 := 76) (pc' := 83) rfl (hb hby d1_76) rfl (by decide) (by decide) (by decide) k) ?_
                    refine Dn.by (U' := T41.setTop (mkF m 84 #[.val (.ref o0), .val (.int p1), .val (.int (0 : Int32))] [(.int (0 : Int32))])) (fun _ k => XS.iconst X41.here hx rfl (hb hby d1_83)  k) ?_
                    refine Dn.out X41 (v := (some (.int (0 : Int32)))) (fun h => by rw [Bd.returns] at h; cases h) (BodyLoose.notSynchronized Bd) (fun _ hr => retN X41 hx (t := .boolean) Bd.returns (by simp) (hb hby d1_84) hr) (by decide) (by decide) ?_
                    rw [e41]
                    exact ⟨by simp only [hor, if_pos c2_1, if_neg c14_2, if_neg c20_5, if_neg c26_8, if_pos c32_29, if_neg c38_30, if_pos c45_39, if_pos c52_40, if_pos c72_42], N0, rfl⟩
                  ·
                    refine Dn.by (U' := T41.setTop (mkF m 83 #[.val (.ref o0), .val (.int p1), .val (.int (0 : Int32))] [])) (fun _ k => Jvm.RoadKit.acmp (g := (mkF m 72 #[.val (.ref o0), .val (.int p1), .val (.int (0 : Int32))] [(.ref s_XML_1_1), (.ref o0)])) X41 hx rfl rfl rfl (pc0 := 72) (pc' := 83) (same := false) rfl (hb hby d1_72) rfl (decide_eq_false fun q => c72_42 (Value.ref.inj q)) (by decide) (by decide) k) ?_
                    refine Dn.by (U' := T41.setTop (mkF m 84 #[.val (.ref o0), .val (.int p1), .val (.int (0 : Int32))] [(.int (0 : Int32))])) (fun _ k => XS.iconst X41.here hx rfl (hb hby d1_83)  k) ?_
                    refine Dn.out X41 (v := (some (.int (0 : Int32)))) (fun h => by rw [Bd.returns] at h; cases h) (BodyLoose.notSynchronized Bd) (fun _ hr => retN X41 hx (t := .boolean) Bd.returns (by simp) (hb hby d1_84) hr) (by decide) (by decide) ?_
                    rw [e41]
                    exact ⟨by simp only [hor, if_pos c2_1, if_neg c14_2, if_neg c20_5, if_neg c26_8, if_pos c32_29, if_neg c38_30, if_pos c45_39, if_pos c52_40, if_neg c72_42], N0, rfl⟩
                ·
                  refine Dn.by (U' := s₁.setTop (mkF m 55 #[.val (.ref o0), .val (.int p1), .unset] [])) (fun _ k => XS.icmpNo X0.here hx rfl (hb hby d1_52) rfl (flt c52_40).1 k) ?_
                  refine Dn.by (U' := s₁.setTop (mkF m 56 #[.val (.ref o0), .val (.int p1), .unset] [(.int p1)])) (fun _ k => XS.iloadN X0.here hx rfl (hb hby d1_55) rfl k) ?_
                  refine Dn.by (U' := s₁.setTop (mkF m 59 #[.val (.ref o0), .val (.int p1), .unset] [(.int (159 : Int32)), (.int p1)])) (fun _ k => XS.sipush X0.here hx rfl (hb hby d1_56)  k) ?_
                  by_cases c59_43 : (159 : Int32) < p1
                  ·
                    refine Dn.by (U' := s₁.setTop (mkF m 66 #[.val (.ref o0), .val (.int p1), .unset] [])) (fun _ k => XS.icmpYes X0.here hx rfl (pc0 := 59) (pc' := 66) rfl (hb hby d1_59) rfl (tlt c59_43).2.2.1 (by decide) (by decide) k) ?_
                    refine Dn.by (U' := s₁.setTop (mkF m 67 #[.val (.ref o0), .val (.int p1), .unset] [(.int (0 : Int32))])) (fun _ k => XS.iconst X0.here hx rfl (hb hby d1_66)  k) ?_
                    refine Dn.by (U' := s₁.setTop (mkF m 68 #[.val (.ref o0), .val (.int p1), .val (.int (0 : Int32))] [])) (fun _ k => XS.istoreN X0.here hx rfl (hb hby d1_67) rfl (l' := #[.val (.ref o0), .val (.int p1), .val (.int (0 : Int32))]) rfl k) ?_
                    refine Dn.by (U' := s₁.setTop (mkF m 69 #[.val (.ref o0), .val (.int p1), .val (.int (0 : Int32))] [(.ref o0)])) (fun _ k => XS.aloadN X0.here hx rfl (hb hby d1_68) rfl rfl k) ?_
                    obtain ⟨T44, X44, e44, st44⟩ := getS2 X0 hx hZ (a0 := a0) hown (host := "") (Or.inl (hw _ (List.mem_of_getElem? (i := 8) rfl))) Via.refl e0 S_XML_1_1 (g := (mkF m 69 #[.val (.ref o0), .val (.int p1), .val (.int (0 : Int32))] [(.ref o0)])) rfl (hb hby d1_69)
                    refine Dn.by (U' := T44.setTop (mkF m 72 #[.val (.ref o0), .val (.int p1), .val (.int (0 : Int32))] [(.ref s_XML_1_1), (.ref o0)])) st44 ?_
                    by_cases c72_45 : o0 = s_XML_1_1
                    ·
                      refine Dn.by (U' := T44.setTop (mkF m 75 #[.val (.ref o0), .val (.int p1), .val (.int (0 : Int32))] [])) (fun _ k => Jvm.RoadKit.acmp (g := (mkF m 72 #[.val (.ref o0), .val (.int p1), .val (.int (0 : Int32))] [(.ref s_XML_1_1), (.ref o0)])) X44 hx rfl rfl rfl (pc0 := 72) (pc' := 75) (same := true) rfl (hb hby d1_72) rfl (decide_eq_true (congrArg Value.ref c72_45)) (by decide) (by decide) k) ?_
                      refine Dn.by (U' := T44.setTop (mkF m 76 #[.val (.ref o0), .val (.int p1), .val (.int (0 : Int32))] [(.int (0 : Int32))])) (fun _ k => XS.iloadN X44.here hx rfl (hb hby d1_75) rfl k) ?_
                      refine Dn.by (U' := T44.setTop (mkF m 83 #[.val (.ref o0), .val (.int p1), .val (.int (0 : Int32))] [])) (fun _ k => XS.ifYes X44.here hx rfl (pc0 := 76) (pc' := 83) rfl (hb hby d1_76) rfl (by decide) (by decide) (by decide) k) ?_
                      refine Dn.by (U' := T44.setTop (mkF m 84 #[.val (.ref o0), .val (.int p1), .val (.int (0 : Int32))] [(.int (0 : Int32))])) (fun _ k => XS.iconst X44.here hx rfl (hb hby d1_83)  k) ?_
                      refine Dn.out X44 (v := (some (.int (0 : Int32)))) (fun h => by rw [Bd.returns] at h; cases h) (BodyLoose.notSynchronized Bd) (fun _ hr => retN X44 hx (t := .boolean) Bd.returns (by simp) (hb hby d1_84) hr) (by decide) (by decide) ?_
                      rw [e44]
                      exact ⟨by simp only [hor, if_pos c2_1, if_neg c14_2, if_neg c20_5, if_neg c26_8, if_pos c32_29, if_neg c38_30, if_pos c45_39, if_neg c52_40, if_pos c59_43, if_pos c72_45], N0, rfl⟩
                    ·
                      refine Dn.by (U' := T44.setTop (mkF m 83 #[.val (.ref o0), .val (.int p1), .val (.int (0 : Int32))] [])) (fun _ k => Jvm.RoadKit.acmp (g := (mkF m 72 #[.val (.ref o0), .val (.int p1), .val (.int (0 : Int32))] [(.ref s_XML_1_1), (.ref o0)])) X44 hx rfl rfl rfl (pc0 := 72) (pc' := 83) (same := false) rfl (hb hby d1_72) rfl (decide_eq_false fun q => c72_45 (Value.ref.inj q)) (by decide) (by decide) k) ?_
                      refine Dn.by (U' := T44.setTop (mkF m 84 #[.val (.ref o0), .val (.int p1), .val (.int (0 : Int32))] [(.int (0 : Int32))])) (fun _ k => XS.iconst X44.here hx rfl (hb hby d1_83)  k) ?_
                      refine Dn.out X44 (v := (some (.int (0 : Int32)))) (fun h => by rw [Bd.returns] at h; cases h) (BodyLoose.notSynchronized Bd) (fun _ hr => retN X44 hx (t := .boolean) Bd.returns (by simp) (hb hby d1_84) hr) (by decide) (by decide) ?_
                      rw [e44]
                      exact ⟨by simp only [hor, if_pos c2_1, if_neg c14_2, if_neg c20_5, if_neg c26_8, if_pos c32_29, if_neg c38_30, if_pos c45_39, if_neg c52_40, if_pos c59_43, if_neg c72_45], N0, rfl⟩
                  ·
                    refine Dn.by (U' := s₁.setTop (mkF m 62 #[.val (.ref o0), .val (.int p1), .unset] [])) (fun _ k => XS.icmpNo X0.here hx rfl (hb hby d1_59) rfl (flt c59_43).2.2.1 k) ?_
                    refine Dn.by (U' := s₁.setTop (mkF m 63 #[.val (.ref o0), .val (.int p1), .unset] [(.int (1 : Int32))])) (fun _ k => XS.iconst X0.here hx rfl (hb hby d1_62)  k) ?_
                    refine Dn.by (U' := s₁.setTop (mkF m 67 #[.val (.ref o0), .val (.int p1), .unset] [(.int (1 : Int32))])) (fun _ k => XS.goto X0.here hx rfl (pc0 := 63) (pc' := 67) rfl (hb hby d1_63) (by decide) (by decide) k) ?_
                    refine Dn.by (U' := s₁.setTop (mkF m 68 #[.val (.ref o0), .val (.int p1), .val (.int (1 : Int32))] [])) (fun _ k => XS.istoreN X0.here hx rfl (hb hby d1_67) rfl (l' := #[.val (.ref o0), .val (.int p1), .val (.int (1 : Int32))]) rfl k) ?_
                    refine Dn.by (U' := s₁.setTop (mkF m 69 #[.val (.ref o0), .val (.int p1), .val (.int (1 : Int32))] [(.ref o0)])) (fun _ k => XS.aloadN X0.here hx rfl (hb hby d1_68) rfl rfl k) ?_
                    obtain ⟨T46, X46, e46, st46⟩ := getS2 X0 hx hZ (a0 := a0) hown (host := "") (Or.inl (hw _ (List.mem_of_getElem? (i := 8) rfl))) Via.refl e0 S_XML_1_1 (g := (mkF m 69 #[.val (.ref o0), .val (.int p1), .val (.int (1 : Int32))] [(.ref o0)])) rfl (hb hby d1_69)
                    refine Dn.by (U' := T46.setTop (mkF m 72 #[.val (.ref o0), .val (.int p1), .val (.int (1 : Int32))] [(.ref s_XML_1_1), (.ref o0)])) st46 ?_
                    by_cases c72_47 : o0 = s_XML_1_1
                    ·
                      refine Dn.by (U' := T46.setTop (mkF m 75 #[.val (.ref o0), .val (.int p1), .val (.int (1 : Int32))] [])) (fun _ k => Jvm.RoadKit.acmp (g := (mkF m 72 #[.val (.ref o0), .val (.int p1), .val (.int (1 : Int32))] [(.ref s_XML_1_1), (.ref o0)])) X46 hx rfl rfl rfl (pc0 := 72) (pc' := 75) (same := true) rfl (hb hby d1_72) rfl (decide_eq_true (congrArg Value.ref c72_47)) (by decide) (by decide) k) ?_
                      refine Dn.by (U' := T46.setTop (mkF m 76 #[.val (.ref o0), .val (.int p1), .val (.int (1 : Int32))] [(.int (1 : Int32))])) (fun _ k => XS.iloadN X46.here hx rfl (hb hby d1_75) rfl k) ?_
                      refine Dn.by (U' := T46.setTop (mkF m 79 #[.val (.ref o0), .val (.int p1), .val (.int (1 : Int32))] [])) (fun _ k => XS.ifNo X46.here hx rfl (hb hby d1_76) rfl (by decide) k) ?_
                      refine Dn.by (U' := T46.setTop (mkF m 80 #[.val (.ref o0), .val (.int p1), .val (.int (1 : Int32))] [(.int (1 : Int32))])) (fun _ k => XS.iconst X46.here hx rfl (hb hby d1_79)  k) ?_
                      refine Dn.by (U' := T46.setTop (mkF m 84 #[.val (.ref o0), .val (.int p1), .val (.int (1 : Int32))] [(.int (1 : Int32))])) (fun _ k => XS.goto X46.here hx rfl (pc0 := 80) (pc' := 84) rfl (hb hby d1_80) (by decide) (by decide) k) ?_
                      refine Dn.out X46 (v := (some (.int (1 : Int32)))) (fun h => by rw [Bd.returns] at h; cases h) (BodyLoose.notSynchronized Bd) (fun _ hr => retN X46 hx (t := .boolean) Bd.returns (by simp) (hb hby d1_84) hr) (by decide) (by decide) ?_
                      rw [e46]
                      exact ⟨by simp only [hor, if_pos c2_1, if_neg c14_2, if_neg c20_5, if_neg c26_8, if_pos c32_29, if_neg c38_30, if_pos c45_39, if_neg c52_40, if_neg c59_43, if_pos c72_47], N0, rfl⟩
                    ·
                      refine Dn.by (U' := T46.setTop (mkF m 83 #[.val (.ref o0), .val (.int p1), .val (.int (1 : Int32))] [])) (fun _ k => Jvm.RoadKit.acmp (g := (mkF m 72 #[.val (.ref o0), .val (.int p1), .val (.int (1 : Int32))] [(.ref s_XML_1_1), (.ref o0)])) X46 hx rfl rfl rfl (pc0 := 72) (pc' := 83) (same := false) rfl (hb hby d1_72) rfl (decide_eq_false fun q => c72_47 (Value.ref.inj q)) (by decide) (by decide) k) ?_
                      refine Dn.by (U' := T46.setTop (mkF m 84 #[.val (.ref o0), .val (.int p1), .val (.int (1 : Int32))] [(.int (0 : Int32))])) (fun _ k => XS.iconst X46.here hx rfl (hb hby d1_83)  k) ?_
                      refine Dn.out X46 (v := (some (.int (0 : Int32)))) (fun h => by rw [Bd.returns] at h; cases h) (BodyLoose.notSynchronized Bd) (fun _ hr => retN X46 hx (t := .boolean) Bd.returns (by simp) (hb hby d1_84) hr) (by decide) (by decide) ?_
                      rw [e46]
                      exact ⟨by simp only [hor, if_pos c2_1, if_neg c14_2, if_neg c20_5, if_neg c26_8, if_pos c32_29, if_neg c38_30, if_pos c45_39, if_neg c52_40, if_neg c59_43, if_neg c72_47], N0, rfl⟩
              ·
                refine Dn.by (U' := s₁.setTop (mkF m 62 #[.val (.ref o0), .val (.int p1), .unset] [])) (fun _ k => XS.icmpYes X0.here hx rfl (pc0 := 45) (pc' := 62) rfl (hb hby d1_45) rfl (flt c45_39).2.2.2 (by decide) (by decide) k) ?_
                refine Dn.by (U' := s₁.setTop (mkF m 63 #[.val (.ref o0), .val (.int p1), .unset] [(.int (1 : Int32))])) (fun _ k => XS.iconst X0.here hx rfl (hb hby d1_62)  k) ?_
                refine Dn.by (U' := s₁.setTop (mkF m 67 #[.val (.ref o0), .val (.int p1), .unset] [(.int (1 : Int32))])) (fun _ k => XS.goto X0.here hx rfl (pc0 := 63) (pc' := 67) rfl (hb hby d1_63) (by decide) (by decide) k) ?_
                refine Dn.by (U' := s₁.setTop (mkF m 68 #[.val (.ref o0), .val (.int p1), .val (.int (1 : Int32))] [])) (fun _ k => XS.istoreN X0.here hx rfl (hb hby d1_67) rfl (l' := #[.val (.ref o0), .val (.int p1), .val (.int (1 : Int32))]) rfl k) ?_
                refine Dn.by (U' := s₁.setTop (mkF m 69 #[.val (.ref o0), .val (.int p1), .val (.int (1 : Int32))] [(.ref o0)])) (fun _ k => XS.aloadN X0.here hx rfl (hb hby d1_68) rfl rfl k) ?_
                obtain ⟨T48, X48, e48, st48⟩ := getS2 X0 hx hZ (a0 := a0) hown (host := "") (Or.inl (hw _ (List.mem_of_getElem? (i := 8) rfl))) Via.refl e0 S_XML_1_1 (g := (mkF m 69 #[.val (.ref o0), .val (.int p1), .val (.int (1 : Int32))] [(.ref o0)])) rfl (hb hby d1_69)
                refine Dn.by (U' := T48.setTop (mkF m 72 #[.val (.ref o0), .val (.int p1), .val (.int (1 : Int32))] [(.ref s_XML_1_1), (.ref o0)])) st48 ?_
                by_cases c72_49 : o0 = s_XML_1_1
                ·
                  refine Dn.by (U' := T48.setTop (mkF m 75 #[.val (.ref o0), .val (.int p1), .val (.int (1 : Int32))] [])) (fun _ k => Jvm.RoadKit.acmp (g := (mkF m 72 #[.val (.ref o0), .val (.int p1), .val (.int (1 : Int32))] [(.ref s_XML_1_1), (.ref o0)])) X48 hx rfl rfl rfl (pc0 := 72) (pc' := 75) (same := true) rfl (hb hby d1_72) rfl (decide_eq_true (congrArg Value.ref c72_49)) (by decide) (by decide) k) ?_
                  refine Dn.by (U' := T48.setTop (mkF m 76 #[.val (.ref o0), .val (.int p1), .val (.int (1 : Int32))] [(.int (1 : Int32))])) (fun _ k => XS.iloadN X48.here hx rfl (hb hby d1_75) rfl k) ?_
                  refine Dn.by (U' := T48.setTop (mkF m 79 #[.val (.ref o0), .val (.int p1), .val (.int (1 : Int32))] [])) (fun _ k => XS.ifNo X48.here hx rfl (hb hby d1_76) rfl (by decide) k) ?_
                  refine Dn.by (U' := T48.setTop (mkF m 80 #[.val (.ref o0), .val (.int p1), .val (.int (1 : Int32))] [(.int (1 : Int32))])) (fun _ k => XS.iconst X48.here hx rfl (hb hby d1_79)  k) ?_
                  refine Dn.by (U' := T48.setTop (mkF m 84 #[.val (.ref o0), .val (.int p1), .val (.int (1 : Int32))] [(.int (1 : Int32))])) (fun _ k => XS.goto X48.here hx rfl (pc0 := 80) (pc' := 84) rfl (hb hby d1_80) (by decide) (by decide) k) ?_
                  refine Dn.out X48 (v := (some (.int (1 : Int32)))) (fun h => by rw [Bd.returns] at h; cases h) (BodyLoose.notSynchronized Bd) (fun _ hr => retN X48 hx (t := .boolean) Bd.returns (by simp) (hb hby d1_84) hr) (by decide) (by decide) ?_
                  rw [e48]
                  exact ⟨by simp only [hor, if_pos c2_1, if_neg c14_2, if_neg c20_5, if_neg c26_8, if_pos c32_29, if_neg c38_30, if_neg c45_39, if_pos c72_49], N0, rfl⟩
                ·
                  refine Dn.by (U' := T48.setTop (mkF m 83 #[.val (.ref o0), .val (.int p1), .val (.int (1 : Int32))] [])) (fun _ k => Jvm.RoadKit.acmp (g := (mkF m 72 #[.val (.ref o0), .val (.int p1), .val (.int (1 : Int32))] [(.ref s_XML_1_1), (.ref o0)])) X48 hx rfl rfl rfl (pc0 := 72) (pc' := 83) (same := false) rfl (hb hby d1_72) rfl (decide_eq_false fun q => c72_49 (Value.ref.inj q)) (by decide) (by decide) k) ?_
                  refine Dn.by (U' := T48.setTop (mkF m 84 #[.val (.ref o0), .val (.int p1), .val (.int (1 : Int32))] [(.int (0 : Int32))])) (fun _ k => XS.iconst X48.here hx rfl (hb hby d1_83)  k) ?_
                  refine Dn.out X48 (v := (some (.int (0 : Int32)))) (fun h => by rw [Bd.returns] at h; cases h) (BodyLoose.notSynchronized Bd) (fun _ hr => retN X48 hx (t := .boolean) Bd.returns (by simp) (hb hby d1_84) hr) (by decide) (by decide) ?_
                  rw [e48]
                  exact ⟨by simp only [hor, if_pos c2_1, if_neg c14_2, if_neg c20_5, if_neg c26_8, if_pos c32_29, if_neg c38_30, if_neg c45_39, if_neg c72_49], N0, rfl⟩
          ·
            refine Dn.by (U' := s₁.setTop (mkF m 62 #[.val (.ref o0), .val (.int p1), .unset] [])) (fun _ k => XS.icmpYes X0.here hx rfl (pc0 := 32) (pc' := 62) rfl (hb hby d1_32) rfl (flt c32_29).2.2.2 (by decide) (by decide) k) ?_
            refine Dn.by (U' := s₁.setTop (mkF m 63 #[.val (.ref o0), .val (.int p1), .unset] [(.int (1 : Int32))])) (fun _ k => XS.iconst X0.here hx rfl (hb hby d1_62)  k) ?_
            refine Dn.by (U' := s₁.setTop (mkF m 67 #[.val (.ref o0), .val (.int p1), .unset] [(.int (1 : Int32))])) (fun _ k => XS.goto X0.here hx rfl (pc0 := 63) (pc' := 67) rfl (hb hby d1_63) (by decide) (by decide) k) ?_
            refine Dn.by (U' := s₁.setTop (mkF m 68 #[.val (.ref o0), .val (.int p1), .val (.int (1 : Int32))] [])) (fun _ k => XS.istoreN X0.here hx rfl (hb hby d1_67) rfl (l' := #[.val (.ref o0), .val (.int p1), .val (.int (1 : Int32))]) rfl k) ?_
            refine Dn.by (U' := s₁.setTop (mkF m 69 #[.val (.ref o0), .val (.int p1), .val (.int (1 : Int32))] [(.ref o0)])) (fun _ k => XS.aloadN X0.here hx rfl (hb hby d1_68) rfl rfl k) ?_
            obtain ⟨T50, X50, e50, st50⟩ := getS2 X0 hx hZ (a0 := a0) hown (host := "") (Or.inl (hw _ (List.mem_of_getElem? (i := 8) rfl))) Via.refl e0 S_XML_1_1 (g := (mkF m 69 #[.val (.ref o0), .val (.int p1), .val (.int (1 : Int32))] [(.ref o0)])) rfl (hb hby d1_69)
            refine Dn.by (U' := T50.setTop (mkF m 72 #[.val (.ref o0), .val (.int p1), .val (.int (1 : Int32))] [(.ref s_XML_1_1), (.ref o0)])) st50 ?_
            by_cases c72_51 : o0 = s_XML_1_1
            ·
              refine Dn.by (U' := T50.setTop (mkF m 75 #[.val (.ref o0), .val (.int p1), .val (.int (1 : Int32))] [])) (fun _ k => Jvm.RoadKit.acmp (g := (mkF m 72 #[.val (.ref o0), .val (.int p1), .val (.int (1 : Int32))] [(.ref s_XML_1_1), (.ref o0)])) X50 hx rfl rfl rfl (pc0 := 72) (pc' := 75) (same := true) rfl (hb hby d1_72) rfl (decide_eq_true (congrArg Value.ref c72_51)) (by decide) (by decide) k) ?_
              refine Dn.by (U' := T50.setTop (mkF m 76 #[.val (.ref o0), .val (.int p1), .val (.int (1 : Int32))] [(.int (1 : Int32))])) (fun _ k => XS.iloadN X50.here hx rfl (hb hby d1_75) rfl k) ?_
              refine Dn.by (U' := T50.setTop (mkF m 79 #[.val (.ref o0), .val (.int p1), .val (.int (1 : Int32))] [])) (fun _ k => XS.ifNo X50.here hx rfl (hb hby d1_76) rfl (by decide) k) ?_
              refine Dn.by (U' := T50.setTop (mkF m 80 #[.val (.ref o0), .val (.int p1), .val (.int (1 : Int32))] [(.int (1 : Int32))])) (fun _ k => XS.iconst X50.here hx rfl (hb hby d1_79)  k) ?_
              refine Dn.by (U' := T50.setTop (mkF m 84 #[.val (.ref o0), .val (.int p1), .val (.int (1 : Int32))] [(.int (1 : Int32))])) (fun _ k => XS.goto X50.here hx rfl (pc0 := 80) (pc' := 84) rfl (hb hby d1_80) (by decide) (by decide) k) ?_
              refine Dn.out X50 (v := (some (.int (1 : Int32)))) (fun h => by rw [Bd.returns] at h; cases h) (BodyLoose.notSynchronized Bd) (fun _ hr => retN X50 hx (t := .boolean) Bd.returns (by simp) (hb hby d1_84) hr) (by decide) (by decide) ?_
              rw [e50]
              exact ⟨by simp only [hor, if_pos c2_1, if_neg c14_2, if_neg c20_5, if_neg c26_8, if_neg c32_29, if_pos c72_51], N0, rfl⟩
            ·
              refine Dn.by (U' := T50.setTop (mkF m 83 #[.val (.ref o0), .val (.int p1), .val (.int (1 : Int32))] [])) (fun _ k => Jvm.RoadKit.acmp (g := (mkF m 72 #[.val (.ref o0), .val (.int p1), .val (.int (1 : Int32))] [(.ref s_XML_1_1), (.ref o0)])) X50 hx rfl rfl rfl (pc0 := 72) (pc' := 83) (same := false) rfl (hb hby d1_72) rfl (decide_eq_false fun q => c72_51 (Value.ref.inj q)) (by decide) (by decide) k) ?_
              refine Dn.by (U' := T50.setTop (mkF m 84 #[.val (.ref o0), .val (.int p1), .val (.int (1 : Int32))] [(.int (0 : Int32))])) (fun _ k => XS.iconst X50.here hx rfl (hb hby d1_83)  k) ?_
              refine Dn.out X50 (v := (some (.int (0 : Int32)))) (fun h => by rw [Bd.returns] at h; cases h) (BodyLoose.notSynchronized Bd) (fun _ hr => retN X50 hx (t := .boolean) Bd.returns (by simp) (hb hby d1_84) hr) (by decide) (by decide) ?_
              rw [e50]
              exact ⟨by simp only [hor, if_pos c2_1, if_neg c14_2, if_neg c20_5, if_neg c26_8, if_neg c32_29, if_neg c72_51], N0, rfl⟩
  ·
    refine Dn.by (U' := s₁.setTop (mkF m 5 #[.val (.ref o0), .val (.int p1), .unset] [])) (fun _ k => XS.icmpNo X0.here hx rfl (hb hby d1_2) rfl (flt c2_1).1 k) ?_
    refine Dn.by (U' := s₁.setTop (mkF m 6 #[.val (.ref o0), .val (.int p1), .unset] [(.int p1)])) (fun _ k => XS.iloadN X0.here hx rfl (hb hby d1_5) rfl k) ?_
    refine Dn.by (U' := s₁.setTop (mkF m 8 #[.val (.ref o0), .val (.int p1), .unset] [(.int (8 : Int32)), (.int p1)])) (fun _ k => XS.bipush X0.here hx rfl (hb hby d1_6)  k) ?_
    by_cases c8_52 : (8 : Int32) < p1
    ·
      refine Dn.by (U' := s₁.setTop (mkF m 11 #[.val (.ref o0), .val (.int p1), .unset] [])) (fun _ k => XS.icmpNo X0.here hx rfl (hb hby d1_8) rfl (tlt c8_52).2.2.2 k) ?_
      refine Dn.by (U' := s₁.setTop (mkF m 12 #[.val (.ref o0), .val (.int p1), .unset] [(.int p1)])) (fun _ k => XS.iloadN X0.here hx rfl (hb hby d1_11) rfl k) ?_
      refine Dn.by (U' := s₁.setTop (mkF m 14 #[.val (.ref o0), .val (.int p1), .unset] [(.int (11 : Int32)), (.int p1)])) (fun _ k => XS.bipush X0.here hx rfl (hb hby d1_12)  k) ?_
      by_cases c14_53 : p1 = (11 : Int32)
      ·
        refine Dn.by (U' := s₁.setTop (mkF m 62 #[.val (.ref o0), .val (.int p1), .unset] [])) (fun _ k => XS.icmpYes X0.here hx rfl (pc0 := 14) (pc' := 62) rfl (hb hby d1_14) rfl (teq c14_53).1 (by decide) (by decide) k) ?_
        refine Dn.by (U' := s₁.setTop (mkF m 63 #[.val (.ref o0), .val (.int p1), .unset] [(.int (1 : Int32))])) (fun _ k => XS.iconst X0.here hx rfl (hb hby d1_62)  k) ?_
        refine Dn.by (U' := s₁.setTop (mkF m 67 #[.val (.ref o0), .val (.int p1), .unset] [(.int (1 : Int32))])) (fun _ k => XS.goto X0.here hx rfl (pc0 := 63) (pc' := 67) rfl (hb hby d1_63) (by decide) (by decide) k) ?_
        refine Dn.by (U' := s₁.setTop (mkF m 68 #[.val (.ref o0), .val (.int p1), .val (.int (1 : Int32))] [])) (fun _ k => XS.istoreN X0.here hx rfl (hb hby d1_67) rfl (l' := #[.val (.ref o0), .val (.int p1), .val (.int (1 : Int32))]) rfl k) ?_
        refine Dn.by (U' := s₁.setTop (mkF m 69 #[.val (.ref o0), .val (.int p1), .val (.int (1 : Int32))] [(.ref o0)])) (fun _ k => XS.aloadN X0.here hx rfl (hb hby d1_68) rfl rfl k) ?_
        obtain ⟨T54, X54, e54, st54⟩ := getS2 X0 hx hZ (a0 := a0) hown (host := "") (Or.inl (hw _ (List.mem_of_getElem? (i := 8) rfl))) Via.refl e0 S_XML_1_1 (g := (mkF m 69 #[.val (.ref o0), .val (.int p1), .val (.int (1 : Int32))] [(.ref o0)])) rfl (hb hby d1_69)
        refine Dn.by (U' := T54.setTop (mkF m 72 #[.val (.ref o0), .val (.int p1), .val (.int (1 : Int32))] [(.ref s_XML_1_1), (.ref o0)])) st54 ?_
        by_cases c72_55 : o0 = s_XML_1_1
        ·
          refine Dn.by (U' := T54.setTop (mkF m 75 #[.val (.ref o0), .val (.int p1), .val (.int (1 : Int32))] [])) (fun _ k => Jvm.RoadKit.acmp (g := (mkF m 72 #[.val (.ref o0), .val (.int p1), .val (.int (1 : Int32))] [(.ref s_XML_1_1), (.ref o0)])) X54 hx rfl rfl rfl (pc0 := 72) (pc' := 75) (same := true) rfl (hb hby d1_72) rfl (decide_eq_true (congrArg Value.ref c72_55)) (by decide) (by decide) k) ?_
          refine Dn.by (U' := T54.setTop (mkF m 76 #[.val (.ref o0), .val (.int p1), .val (.int (1 : Int32))] [(.int (1 : Int32))])) (fun _ k => XS.iloadN X54.here hx rfl (hb hby d1_75) rfl k) ?_
          refine Dn.by (U' := T54.setTop (mkF m 79 #[.val (.ref o0), .val (.int p1), .val (.int (1 : Int32))] [])) (fun _ k => XS.ifNo X54.here hx rfl (hb hby d1_76) rfl (by decide) k) ?_
          refine Dn.by (U' := T54.setTop (mkF m 80 #[.val (.ref o0), .val (.int p1), .val (.int (1 : Int32))] [(.int (1 : Int32))])) (fun _ k => XS.iconst X54.here hx rfl (hb hby d1_79)  k) ?_
          refine Dn.by (U' := T54.setTop (mkF m 84 #[.val (.ref o0), .val (.int p1), .val (.int (1 : Int32))] [(.int (1 : Int32))])) (fun _ k => XS.goto X54.here hx rfl (pc0 := 80) (pc' := 84) rfl (hb hby d1_80) (by decide) (by decide) k) ?_
          refine Dn.out X54 (v := (some (.int (1 : Int32)))) (fun h => by rw [Bd.returns] at h; cases h) (BodyLoose.notSynchronized Bd) (fun _ hr => retN X54 hx (t := .boolean) Bd.returns (by simp) (hb hby d1_84) hr) (by decide) (by decide) ?_
          rw [e54]
          exact ⟨by simp only [hor, if_neg c2_1, if_pos c8_52, if_pos c14_53, if_pos c72_55], N0, rfl⟩
        ·
          refine Dn.by (U' := T54.setTop (mkF m 83 #[.val (.ref o0), .val (.int p1), .val (.int (1 : Int32))] [])) (fun _ k => Jvm.RoadKit.acmp (g := (mkF m 72 #[.val (.ref o0), .val (.int p1), .val (.int (1 : Int32))] [(.ref s_XML_1_1), (.ref o0)])) X54 hx rfl rfl rfl (pc0 := 72) (pc' := 83) (same := false) rfl (hb hby d1_72) rfl (decide_eq_false fun q => c72_55 (Value.ref.inj q)) (by decide) (by decide) k) ?_
          refine Dn.by (U' := T54.setTop (mkF m 84 #[.val (.ref o0), .val (.int p1), .val (.int (1 : Int32))] [(.int (0 : Int32))])) (fun _ k => XS.iconst X54.here hx rfl (hb hby d1_83)  k) ?_
          refine Dn.out X54 (v := (some (.int (0 : Int32)))) (fun h => by rw [Bd.returns] at h; cases h) (BodyLoose.notSynchronized Bd) (fun _ hr => retN X54 hx (t := .boolean) Bd.returns (by simp) (hb hby d1_84) hr) (by decide) (by decide) ?_
          rw [e54]
          exact ⟨by simp only [hor, if_neg c2_1, if_pos c8_52, if_pos c14_53, if_neg c72_55], N0, rfl⟩
      ·
        refine Dn.by (U' := s₁.setTop (mkF m 17 #[.val (.ref o0), .val (.int p1), .unset] [])) (fun _ k => XS.icmpNo X0.here hx rfl (hb hby d1_14) rfl (feq c14_53).1 k) ?_
        refine Dn.by (U' := s₁.setTop (mkF m 18 #[.val (.ref o0), .val (.int p1), .unset] [(.int p1)])) (fun _ k => XS.iloadN X0.here hx rfl (hb hby d1_17) rfl k) ?_
        refine Dn.by (U' := s₁.setTop (mkF m 20 #[.val (.ref o0), .val (.int p1), .unset] [(.int (12 : Int32)), (.int p1)])) (fun _ k => XS.bipush X0.here hx rfl (hb hby d1_18)  k) ?_
        by_cases c20_56 : p1 = (12 : Int32)
        ·
          refine Dn.by (U' := s₁.setTop (mkF m 62 #[.val (.ref o0), .val (.int p1), .unset] [])) (fun _ k => XS.icmpYes X0.here hx rfl (pc0 := 20) (pc' := 62) rfl (hb hby d1_20) rfl (teq c20_56).1 (by decide) (by decide) k) ?_
          refine Dn.by (U' := s₁.setTop (mkF m 63 #[.val (.ref o0), .val (.int p1), .unset] [(.int (1 : Int32))])) (fun _ k => XS.iconst X0.here hx rfl (hb hby d1_62)  k) ?_
          refine Dn.by (U' := s₁.setTop (mkF m 67 #[.val (.ref o0), .val (.int p1), .unset] [(.int (1 : Int32))])) (fun _ k => XS.goto X0.here hx rfl (pc0 := 63) (pc' := 67) rfl (hb hby d1_63) (by decide) (by decide) k) ?_
          refine Dn.by (U' := s₁.setTop (mkF m 68 #[.val (.ref o0), .val (.int p1), .val (.int (1 : Int32))] [])) (fun _ k => XS.istoreN X0.here hx rfl (hb hby d1_67) rfl (l' := #[.val (.ref o0), .val (.int p1), .val (.int (1 : Int32))]) rfl k) ?_
          refine Dn.by (U' := s₁.setTop (mkF m 69 #[.val (.ref o0), .val (.int p1), .val (.int (1 : Int32))] [(.ref o0)])) (fun _ k => XS.aloadN X0.here hx rfl (hb hby d1_68) rfl rfl k) ?_
          obtain ⟨T57, X57, e57, st57⟩ := getS2 X0 hx hZ (a0 := a0) hown (host := "") (Or.inl (hw _ (List.mem_of_getElem? (i := 8) rfl))) Via.refl e0 S_XML_1_1 (g := (mkF m 69 #[.val (.ref o0), .val (.int p1), .val (.int (1 : Int32))] [(.ref o0)])) rfl (hb hby d1_69)
          refine Dn.by (U' := T57.setTop (mkF m 72 #[.val (.ref o0), .val (.int p1), .val (.int (1 : Int32))] [(.ref s_XML_1_1), (.ref o0)])) st57 ?_
          by_cases c72_58 : o0 = s_XML_1_1
          ·
            refine Dn.by (U' := T57.setTop (mkF m 75 #[.val (.ref o0), .val (.int p1), .val (.int (1 : Int32))] [])) (fun _ k => Jvm.RoadKit.acmp (g := (mkF m 72 #[.val (.ref o0), .val (.int p1), .val (.int (1 : Int32))] [(.ref s_XML_1_1), (.ref o0)])) X57 hx rfl rfl rfl (pc0 := 72) (pc' := 75) (same := true) rfl (hb hby d1_72) rfl (decide_eq_true (congrArg Value.ref c72_58)) (by decide) (by decide) k) ?_
            refine Dn.by (U' := T57.setTop (mkF m 76 #[.val (.ref o0), .val (.int p1), .val (.int (1 : Int32))] [(.int (1 : Int32))])) (fun _ k => XS.iloadN X57.here hx rfl (hb hby d1_75) rfl k) ?_
            refine Dn.by (U' := T57.setTop (mkF m 79 #[.val (.ref o0), .val (.int p1), .val (.int (1 : Int32))] [])) (fun _ k => XS.ifNo X57.here hx rfl (hb hby d1_76) rfl (by decide) k) ?_
            refine Dn.by (U' := T57.setTop (mkF m 80 #[.val (.ref o0), .val (.int p1), .val (.int (1 : Int32))] [(.int (1 : Int32))])) (fun _ k => XS.iconst X57.here hx rfl (hb hby d1_79)  k) ?_
            refine Dn.by (U' := T57.setTop (mkF m 84 #[.val (.ref o0), .val (.int p1), .val (.int (1 : Int32))] [(.int (1 : Int32))])) (fun _ k => XS.goto X57.here hx rfl (pc0 := 80) (pc' := 84) rfl (hb hby d1_80) (by decide) (by decide) k) ?_
            refine Dn.out X57 (v := (some (.int (1 : Int32)))) (fun h => by rw [Bd.returns] at h; cases h) (BodyLoose.notSynchronized Bd) (fun _ hr => retN X57 hx (t := .boolean) Bd.returns (by simp) (hb hby d1_84) hr) (by decide) (by decide) ?_
            rw [e57]
            exact ⟨by simp only [hor, if_neg c2_1, if_pos c8_52, if_neg c14_53, if_pos c20_56, if_pos c72_58], N0, rfl⟩
          ·
            refine Dn.by (U' := T57.setTop (mkF m 83 #[.val (.ref o0), .val (.int p1), .val (.int (1 : Int32))] [])) (fun _ k => Jvm.RoadKit.acmp (g := (mkF m 72 #[.val (.ref o0), .val (.int p1), .val (.int (1 : Int32))] [(.ref s_XML_1_1), (.ref o0)])) X57 hx rfl rfl rfl (pc0 := 72) (pc' := 83) (same := false) rfl (hb hby d1_72) rfl (decide_eq_false fun q => c72_58 (Value.ref.inj q)) (by decide) (by decide) k) ?_
            refine Dn.by (U' := T57.setTop (mkF m 84 #[.val (.ref o0), .val (.int p1), .val (.int (1 : Int32))] [(.int (0 : Int32))])) (fun _ k => XS.iconst X57.here hx rfl (hb hby d1_83)  k) ?_
            refine Dn.out X57 (v := (some (.int (0 : Int32)))) (fun h => by rw [Bd.returns] at h; cases h) (BodyLoose.notSynchronized Bd) (fun _ hr => retN X57 hx (t := .boolean) Bd.returns (by simp) (hb hby d1_84) hr) (by decide) (by decide) ?_
            rw [e57]
            exact ⟨by simp only [hor, if_neg c2_1, if_pos c8_52, if_neg c14_53, if_pos c20_56, if_neg c72_58], N0, rfl⟩
        ·
          refine Dn.by (U' := s₁.setTop (mkF m 23 #[.val (.ref o0), .val (.int p1), .unset] [])) (fun _ k => XS.icmpNo X0.here hx rfl (hb hby d1_20) rfl (feq c20_56).1 k) ?_
          refine Dn.by (U' := s₁.setTop (mkF m 24 #[.val (.ref o0), .val (.int p1), .unset] [(.int p1)])) (fun _ k => XS.iloadN X0.here hx rfl (hb hby d1_23) rfl k) ?_
          refine Dn.by (U' := s₁.setTop (mkF m 26 #[.val (.ref o0), .val (.int p1), .unset] [(.int (14 : Int32)), (.int p1)])) (fun _ k => XS.bipush X0.here hx rfl (hb hby d1_24)  k) ?_
          by_cases c26_59 : p1 < (14 : Int32)
          ·
            refine Dn.by (U' := s₁.setTop (mkF m 35 #[.val (.ref o0), .val (.int p1), .unset] [])) (fun _ k => XS.icmpYes X0.here hx rfl (pc0 := 26) (pc' := 35) rfl (hb hby d1_26) rfl (tlt c26_59).1 (by decide) (by decide) k) ?_
            refine Dn.by (U' := s₁.setTop (mkF m 36 #[.val (.ref o0), .val (.int p1), .unset] [(.int p1)])) (fun _ k => XS.iloadN X0.here hx rfl (hb hby d1_35) rfl k) ?_
            refine Dn.by (U' := s₁.setTop (mkF m 38 #[.val (.ref o0), .val (.int p1), .unset] [(.int (127 : Int32)), (.int p1)])) (fun _ k => XS.bipush X0.here hx rfl (hb hby d1_36)  k) ?_
            by_cases c38_60 : p1 < (127 : Int32)
            ·
              refine Dn.by (U' := s₁.setTop (mkF m 48 #[.val (.ref o0), .val (.int p1), .unset] [])) (fun _ k => XS.icmpYes X0.here hx rfl (pc0 := 38) (pc' := 48) rfl (hb hby d1_38) rfl (tlt c38_60).1 (by decide) (by decide) k) ?_
              refine Dn.by (U' := s₁.setTop (mkF m 49 #[.val (.ref o0), .val (.int p1), .unset] [(.int p1)])) (fun _ k => XS.iloadN X0.here hx rfl (hb hby d1_48) rfl k) ?_
              refine Dn.by (U' := s₁.setTop (mkF m 52 #[.val (.ref o0), .val (.int p1), .unset] [(.int (134 : Int32)), (.int p1)])) (fun _ k => XS.sipush X0.here hx rfl (hb hby d1_49)  k) ?_
              by_cases c52_61 : p1 < (134 : Int32)
              ·
                refine Dn.by (U' := s₁.setTop (mkF m 66 #[.val (.ref o0), .val (.int p1), .unset] [])) (fun _ k => XS.icmpYes X0.here hx rfl (pc0 := 52) (pc' := 66) rfl (hb hby d1_52) rfl (tlt c52_61).1 (by decide) (by decide) k) ?_
                refine Dn.by (U' := s₁.setTop (mkF m 67 #[.val (.ref o0), .val (.int p1), .unset] [(.int (0 : Int32))])) (fun _ k => XS.iconst X0.here hx rfl (hb hby d1_66)  k) ?_
                refine Dn.by (U' := s₁.setTop (mkF m 68 #[.val (.ref o0), .val (.int p1), .val (.int (0 : Int32))] [])) (fun _ k => XS.istoreN X0.here hx rfl (hb hby d1_67) rfl (l' := #[.val (.ref o0), .val (.int p1), .val (.int (0 : Int32))]) rfl k) ?_
                refine Dn.by (U' := s₁.setTop (mkF m 69 #[.val (.ref o0), .val (.int p1), .val (.int (0 : Int32))] [(.ref o0)])) (fun _ k => XS.aloadN X0.here hx rfl (hb hby d1_68) rfl rfl k) ?_
                obtain ⟨T62, X62, e62, st62⟩ := getS2 X0 hx hZ (a0 := a0) hown (host := "") (Or.inl (hw _ (List.mem_of_getElem? (i := 8) rfl))) Via.refl e0 S_XML_1_1 (g := (mkF m 69 #[.val (.ref o0), .val (.int p1), .val (.int (0 : Int32))] [(.ref o0)])) rfl (hb hby d1_69)
                refine Dn.by (U' := T62.setTop (mkF m 72 #[.val (.ref o0), .val (.int p1), .val (.int (0 : Int32))] [(.ref s_XML_1_1), (.ref o0)])) st62 ?_
                by_cases c72_63 : o0 = s_XML_1_1
                ·
                  refine Dn.by (U' := T62.setTop (mkF m 75 #[.val (.ref o0), .val (.int p1), .val (.int (0 : Int32))] [])) (fun _ k => Jvm.RoadKit.acmp (g := (mkF m 72 #[.val (.ref o0), .val (.int p1), .val (.int (0 : Int32))] [(.ref s_XML_1_1), (.ref o0)])) X62 hx rfl rfl rfl (pc0 := 72) (pc' := 75) (same := true) rfl (hb hby d1_72) rfl (decide_eq_true (congrArg Value.ref c72_63)) (by decide) (by decide) k) ?_
                  refine Dn.by (U' := T62.setTop (mkF m 76 #[.val (.ref o0), .val (.int p1), .val (.int (0 : Int32))] [(.int (0 : Int32))])) (fun _ k => XS.iloadN X62.here hx rfl (hb hby d1_75) rfl k) ?_
                  refine Dn.by (U' := T62.setTop (mkF m 83 #[.val (.ref o0), .val (.int p1), .val (.int (0 : Int32))] [])) (fun _ k => XS.ifYes X62.here hx rfl (pc0 := 76) (pc' := 83) rfl (hb hby d1_76) rfl (by decide) (by decide) (by decide) k) ?_
                  refine Dn.by (U' := T62.setTop (mkF m 84 #[.val (.ref o0), .val (.int p1), .val (.int (0 : Int32))] [(.int (0 : Int32))])) (fun _ k => XS.iconst X62.here hx rfl (hb hby d1_83)  k) ?_
                  refine Dn.out X62 (v := (some (.int (0 : Int32)))) (fun h => by rw [Bd.returns] at h; cases h) (BodyLoose.notSynchronized Bd) (fun _ hr => retN X62 hx (t := .boolean) Bd.returns (by simp) (hb hby d1_84) hr) (by decide) (by decide) ?_
                  rw [e62]
                  exact ⟨by simp only [hor, if_neg c2_1, if_pos c8_52, if_neg c14_53, if_neg c20_56, if_pos c26_59, if_pos c38_60, if_pos c52_61, if_pos c72_63], N0, rfl⟩
                ·
                  refine Dn.by (U' := T62.setTop (mkF m 83 #[.val (.ref o0), .val (.int p1), .val (.int (0 : Int32))] [])) (fun _ k => Jvm.RoadKit.acmp (g := (mkF m 72 #[.val (.ref o0), .val (.int p1), .val (.int (0 : Int32))] [(.ref s_XML_1_1), (.ref o0)])) X62 hx rfl rfl rfl (pc0 := 72) (pc' := 83) (same := false) rfl (hb hby d1_72) rfl (decide_eq_false fun q => c72_63 (Value.ref.inj q)) (by decide) (by decide) k) ?_
                  refine Dn.by (U' := T62.setTop (mkF m 84 #[.val (.ref o0), .val (.int p1), .val (.int (0 : Int32))] [(.int (0 : Int32))])) (fun _ k => XS.iconst X62.here hx rfl (hb hby d1_83)  k) ?_
                  refine Dn.out X62 (v := (some (.int (0 : Int32)))) (fun h => by rw [Bd.returns] at h; cases h) (BodyLoose.notSynchronized Bd) (fun _ hr => retN X62 hx (t := .boolean) Bd.returns (by simp) (hb hby d1_84) hr) (by decide) (by decide) ?_
                  rw [e62]
                  exact ⟨by simp only [hor, if_neg c2_1, if_pos c8_52, if_neg c14_53, if_neg c20_56, if_pos c26_59, if_pos c38_60, if_pos c52_61, if_neg c72_63], N0, rfl⟩
              ·
                refine Dn.by (U' := s₁.setTop (mkF m 55 #[.val (.ref o0), .val (.int p1), .unset] [])) (fun _ k => XS.icmpNo X0.here hx rfl (hb hby d1_52) rfl (flt c52_61).1 k) ?_
                refine Dn.by (U' := s₁.setTop (mkF m 56 #[.val (.ref o0), .val (.int p1), .unset] [(.int p1)])) (fun _ k => XS.iloadN X0.here hx rfl (hb hby d1_55) rfl k) ?_
                refine Dn.by (U' := s₁.setTop (mkF m 59 #[.val (.ref o0), .val (.int p1), .unset] [(.int (159 : Int32)), (.int p1)])) (fun _ k => XS.sipush X0.here hx rfl (hb hby d1_56)  k) ?_
                by_cases c59_64 : (159 : Int32) < p1
                ·
                  refine Dn.by (U' := s₁.setTop (mkF m 66 #[.val (.ref o0), .val (.int p1), .unset] [])) (fun _ k => XS.icmpYes X0.here hx rfl (pc0 := 59) (pc' := 66) rfl (hb hby d1_59) rfl (tlt c59_64).2.2.1 (by decide) (by decide) k) ?_
                  refine Dn.by (U' := s₁.setTop (mkF m 67 #[.val (.ref o0), .val (.int p1), .unset] [(.int (0 : Int32))])) (fun _ k => XS.iconst X0.here hx rfl (hb hby d1_66)  k) ?_
                  refine Dn.by (U' := s₁.setTop (mkF m 68 #[.val (.ref o0), .val (.int p1), .val (.int (0 : Int32))] [])) (fun _ k => XS.istoreN X0.here hx rfl (hb hby d1_67) rfl (l' := #[.val (.ref o0), .val (.int p1), .val (.int (0 : Int32))]) rfl k) ?_
                  refine Dn.by (U' := s₁.setTop (mkF m 69 #[.val (.ref o0), .val (.int p1), .val (.int (0 : Int32))] [(.ref o0)])) (fun _ k => XS.aloadN X0.here hx rfl (hb hby d1_68) rfl rfl k) ?_
                  obtain ⟨T65, X65, e65, st65⟩ := getS2 X0 hx hZ (a0 := a0) hown (host := "") (Or.inl (hw _ (List.mem_of_getElem? (i := 8) rfl))) Via.refl e0 S_XML_1_1 (g := (mkF m 69 #[.val (.ref o0), .val (.int p1), .val (.int (0 : Int32))] [(.ref o0)])) rfl (hb hby d1_69)
                  refine Dn.by (U' := T65.setTop (mkF m 72 #[.val (.ref o0), .val (.int p1), .val (.int (0 : Int32))] [(.ref s_XML_1_1), (.ref o0)])) st65 ?_
                  by_cases c72_66 : o0 = s_XML_1_1
                  ·
                    refine Dn.by (U' := T65.setTop (mkF m 75 #[.val (.ref o0), .val (.int p1), .val (.int (0 : Int32))] [])) (fun _ k => Jvm.RoadKit.acmp (g := (mkF m 72 #[.val (.ref o0), .val (.int p1), .val (.int (0 : Int32))] [(.ref s_XML_1_1), (.ref o0)])) X65 hx rfl rfl rfl (pc0 := 72) (pc' := 75) (same := true) rfl (hb hby d1_72) rfl (decide_eq_true (congrArg Value.ref c72_66)) (by decide) (by decide) k) ?_
                    refine Dn.by (U' := T65.setTop (mkF m 76 #[.val (.ref o0), .val (.int p1), .val (.int (0 : Int32))] [(.int (0 : Int32))])) (fun _ k => XS.iloadN X65.here hx rfl (hb hby d1_75) rfl k) ?_
                    refine Dn.by (U' := T65.setTop (mkF m 83 #[.val (.ref o0), .val (.int p1), .val (.int (0 : Int32))] [])) (fun _ k => XS.ifYes X65.here hx rfl (pc0 := 76) (pc' := 83) rfl (hb hby d1_76) rfl (by decide) (by decide) (by decide) k) ?_
                    refine Dn.by (U' := T65.setTop (mkF m 84 #[.val (.ref o0), .val (.int p1), .val (.int (0 : Int32))] [(.int (0 : Int32))])) (fun _ k => XS.iconst X65.here hx rfl (hb hby d1_83)  k) ?_
                    refine Dn.out X65 (v := (some (.int (0 : Int32)))) (fun h => by rw [Bd.returns] at h; cases h) (BodyLoose.notSynchronized Bd) (fun _ hr => retN X65 hx (t := .boolean) Bd.returns (by simp) (hb hby d1_84) hr) (by decide) (by decide) ?_
                    rw [e65]
                    exact ⟨by simp only [hor, if_neg c2_1, if_pos c8_52, if_neg c14_53, if_neg c20_56, if_pos c26_59, if_pos c38_60, if_neg c52_61, if_pos c59_64, if_pos c72_66], N0, rfl⟩
                  ·
                    refine Dn.by (U' := T65.setTop (mkF m 83 #[.val (.ref o0), .val (.int p1), .val (.int (0 : Int32))] [])) (fun _ k => Jvm.RoadKit.acmp (g := (mkF m 72 #[.val (.ref o0), .val (.int p1), .val (.int (0 : Int32))] [(.ref s_XML_1_1), (.ref o0)])) X65 hx rfl rfl rfl (pc0 := 72) (pc' := 83) (same := false) rfl (hb hby d1_72) rfl (decide_eq_false fun q => c72_66 (Value.ref.inj q)) (by decide) (by decide) k) ?_
                    refine Dn.by (U' := T65.setTop (mkF m 84 #[.val (.ref o0), .val (.int p1), .val (.int (0 : Int32))] [(.int (0 : Int32))])) (fun _ k => XS.iconst X65.here hx rfl (hb hby d1_83)  k) ?_
                    refine Dn.out X65 (v := (some (.int (0 : Int32)))) (fun h => by rw [Bd.returns] at h; cases h) (BodyLoose.notSynchronized Bd) (fun _ hr => retN X65 hx (t := .boolean) Bd.returns (by simp) (hb hby d1_84) hr) (by decide) (by decide) ?_
                    rw [e65]
                    exact ⟨by simp only [hor, if_neg c2_1, if_pos c8_52, if_neg c14_53, if_neg c20_56, if_pos c26_59, if_pos c38_60, if_neg c52_61, if_pos c59_64, if_neg c72_66], N0, rfl⟩
                ·
                  refine Dn.by (U' := s₁.setTop (mkF m 62 #[.val (.ref o0), .val (.int p1), .unset] [])) (fun _ k => XS.icmpNo X0.here hx rfl (hb hby d1_59) rfl (flt c59_64).2.2.1 k) ?_
                  refine Dn.by (U' := s₁.setTop (mkF m 63 #[.val (.ref o0), .val (.int p1), .unset] [(.int (1 : Int32))])) (fun _ k => XS.iconst X0.here hx rfl (hb hby d1_62)  k) ?_
                  refine Dn.by (U' := s₁.setTop (mkF m 67 #[.val (.ref o0), .val (.int p1), .unset] [(.int (1 : Int32))])) (fun _ k => XS.goto X0.here hx rfl (pc0 := 63) (pc' := 67) rfl (hb hby d1_63) (by decide) (by decide) k) ?_
                  refine Dn.by (U' := s₁.setTop (mkF m 68 #[.val (.ref o0), .val (.int p1), .val (.int (1 : Int32))] [])) (fun _ k => XS.istoreN X0.here hx rfl (hb hby d1_67) rfl (l' := #[.val (.ref o0), .val (.int p1), .val (.int (1 : Int32))]) rfl k) ?_
                  refine Dn.by (U' := s₁.setTop (mkF m 69 #[.val (.ref o0), .val (.int p1), .val (.int (1 : Int32))] [(.ref o0)])) (fun _ k => XS.aloadN X0.here hx rfl (hb hby d1_68) rfl rfl k) ?_
                  obtain ⟨T67, X67, e67, st67⟩ := getS2 X0 hx hZ (a0 := a0) hown (host := "") (Or.inl (hw _ (List.mem_of_getElem? (i := 8) rfl))) Via.refl e0 S_XML_1_1 (g := (mkF m 69 #[.val (.ref o0), .val (.int p1), .val (.int (1 : Int32))] [(.ref o0)])) rfl (hb hby d1_69)
                  refine Dn.by (U' := T67.setTop (mkF m 72 #[.val (.ref o0), .val (.int p1), .val (.int (1 : Int32))] [(.ref s_XML_1_1), (.ref o0)])) st67 ?_
                  by_cases c72_68 : o0 = s_XML_1_1
                  ·
                    refine Dn.by (U' := T67.setTop (mkF m 75 #[.val (.ref o0), .val (.int p1), .val (.int (1 : Int32))] [])) (fun _ k => Jvm.RoadKit.acmp (g := (mkF m 72 #[.val (.ref o0), .val (.int p1), .val (.int (1 : Int32))] [(.ref s_XML_1_1), (.ref o0)])) X67 hx rfl rfl rfl (pc0 := 72) (pc' := 75) (same := true) rfl (hb hby d1_72) rfl (decide_eq_true (congrArg Value.ref c72_68)) (by decide) (by decide) k) ?_
                    refine Dn.by (U' := T67.setTop (mkF m 76 #[.val (.ref o0), .val (.int p1), .val (.int (1 : Int32))] [(.int (1 : Int32))])) (fun _ k => XS.iloadN X67.here hx rfl (hb hby d1_75) rfl k) ?_
                    refine Dn.by (U' := T67.setTop (mkF m 79 #[.val (.ref o0), .val (.int p1), .val (.int (1 : Int32))] [])) (fun _ k => XS.ifNo X67.here hx rfl (hb hby d1_76) rfl (by decide) k) ?_
                    refine Dn.by (U' := T67.setTop (mkF m 80 #[.val (.ref o0), .val (.int p1), .val (.int (1 : Int32))] [(.int (1 : Int32))])) (fun _ k => XS.iconst X67.here hx rfl (hb hby d1_79)  k) ?_
                    refine Dn.by (U' := T67.setTop (mkF m 84 #[.val (.ref o0), .val (.int p1), .val (.int (1 : Int32))] [(.int (1 : Int32))])) (fun _ k => XS.goto X67.here hx rfl (pc0 := 80) (pc' := 84) rfl (hb hby d1_80) (by decide) (by decide) k) ?_
                    refine Dn.out X67 (v := (some (.int (1 : Int32)))) (fun h => by rw [Bd.returns] at h; cases h) (BodyLoose.notSynchronized Bd) (fun _ hr => retN X67 hx (t := .boolean) Bd.returns (by simp) (hb hby d1_84) hr) (by decide) (by decide) ?_
                    rw [e67]
                    exact ⟨by simp only [hor, if_neg c2_1, if_pos c8_52, if_neg c14_53, if_neg c20_56, if_pos c26_59, if_pos c38_60, if_neg c52_61, if_neg c59_64, if_pos c72_68], N0, rfl⟩
                  ·
                    refine Dn.by (U' := T67.setTop (mkF m 83 #[.val (.ref o0), .val (.int p1), .val (.int (1 : Int32))] [])) (fun _ k => Jvm.RoadKit.acmp (g := (mkF m 72 #[.val (.ref o0), .val (.int p1), .val (.int (1 : Int32))] [(.ref s_XML_1_1), (.ref o0)])) X67 hx rfl rfl rfl (pc0 := 72) (pc' := 83) (same := false) rfl (hb hby d1_72) rfl (decide_eq_false fun q => c72_68 (Value.ref.inj q)) (by decide) (by decide) k) ?_
                    refine Dn.by (U' := T67.setTop (mkF m 84 #[.val (.ref o0), .val (.int p1), .val (.int (1 : Int32))] [(.int (0 : Int32))])) (fun _ k => XS.iconst X67.here hx rfl (hb hby d1_83)  k) ?_
                    refine Dn.out X67 (v := (some (.int (0 : Int32)))) (fun h => by rw [Bd.returns] at h; cases h) (BodyLoose.notSynchronized Bd) (fun _ hr => retN X67 hx (t := .boolean) Bd.returns (by simp) (hb hby d1_84) hr) (by decide) (by decide) ?_
                    rw [e67]
                    exact ⟨by simp only [hor, if_neg c2_1, if_pos c8_52, if_neg c14_53, if_neg c20_56, if_pos c26_59, if_pos c38_60, if_neg c52_61, if_neg c59_64, if_neg c72_68], N0, rfl⟩
            ·
              refine Dn.by (U' := s₁.setTop (mkF m 41 #[.val (.ref o0), .val (.int p1), .unset] [])) (fun _ k => XS.icmpNo X0.here hx rfl (hb hby d1_38) rfl (flt c38_60).1 k) ?_
              refine Dn.by (U' := s₁.setTop (mkF m 42 #[.val (.ref o0), .val (.int p1), .unset] [(.int p1)])) (fun _ k => XS.iloadN X0.here hx rfl (hb hby d1_41) rfl k) ?_
              refine Dn.by (U' := s₁.setTop (mkF m 45 #[.val (.ref o0), .val (.int p1), .unset] [(.int (132 : Int32)), (.int p1)])) (fun _ k => XS.sipush X0.here hx rfl (hb hby d1_42)  k) ?_
              by_cases c45_69 : (132 : Int32) < p1
              ·
                refine Dn.by (U' := s₁.setTop (mkF m 48 #[.val (.ref o0), .val (.int p1), .unset] [])) (fun _ k => XS.icmpNo X0.here hx rfl (hb hby d1_45) rfl (tlt c45_69).2.2.2 k) ?_
                refine Dn.by (U' := s₁.setTop (mkF m 49 #[.val (.ref o0), .val (.int p1), .unset] [(.int p1)])) (fun _ k => XS.iloadN X0.here hx rfl (hb hby d1_48) rfl k) ?_
                refine Dn.by (U' := s₁.setTop (mkF m 52 #[.val (.ref o0), .val (.int p1), .unset] [(.int (134 : Int32)), (.int p1)])) (fun _ k => XS.sipush X0.here hx rfl (hb hby d1_49)  k) ?_
                by_cases c52_70 : p1 < (134 : Int32)
                ·
                  refine Dn.by (U' := s₁.setTop (mkF m 66 #[.val (.ref o0), .val (.int p1), .unset] [])) (fun _ k => XS.icmpYes X0.here hx rfl (pc0 := 52) (pc' := 66) rfl (hb hby d1_52) rfl (tlt c52_70).1 (by decide) (by decide) k) ?_
                  refine Dn.by (U' := s₁.setTop (mkF m 67 #[.val (.ref o0), .val (.int p1), .unset] [(.int (0 : Int32))])) (fun _ k => XS.iconst X0.here hx rfl (hb hby d1_66)  k) ?_
                  refine Dn.by (U' := s₁.setTop (mkF m 68 #[.val (.ref o0), .val (.int p1), .val (.int (0 : Int32))] [])) (fun _ k => XS.istoreN X0.here hx rfl (hb hby d1_67) rfl (l' := #[.val (.ref o0), .val (.int p1), .val (.int (0 : Int32))]) rfl k) ?_
                  refine Dn.by (U' := s₁.setTop (mkF m 69 #[.val (.ref o0), .val (.int p1), .val (.int (0 : Int32))] [(.ref o0)])) (fun _ k => XS.aloadN X0.here hx rfl (hb hby d1_68) rfl rfl k) ?_
                  obtain ⟨T71, X71, e71, st71⟩ := getS2 X0 hx hZ (a0 := a0) hown (host := "") (Or.inl (hw _ (List.mem_of_getElem? (i := 8) rfl))) Via.refl e0 S_XML_1_1 (g := (mkF m 69 #[.val (.ref o0), .val (.int p1), .val (.int (0 : Int32))] [(.ref o0)])) rfl (hb hby d1_69)
                  refine Dn.by (U' := T71.setTop (mkF m 72 #[.val (.ref o0), .val (.int p1), .val (.int (0 : Int32))] [(.ref s_XML_1_1), (.ref o0)])) st71 ?_
                  by_cases c72_72 : o0 = s_XML_1_1
                  ·
                    refine Dn.by (U' := T71.setTop (mkF m 75 #[.val (.ref o0), .val (.int p1), .val (.int (0 : Int32))] [])) (fun _ k => Jvm.RoadKit.acmp (g := (mkF m 72 #[.val (.ref o0), .val (.int p1), .val (.int (0 : Int32))] [(.ref s_XML_1_1), (.ref o0)])) X71 hx rfl rfl rfl (pc0 := 72) (pc' := 75) (same := true) rfl (hb hby d1_72) rfl (decide_eq_true (congrArg Value.ref c72_72)) (by decide) (by decide) k) ?_
                    refine Dn.by (U' := T71.setTop (mkF m 76 #[.val (.ref o0), .val (.int p1), .val (.int (0 : Int32))] [(.int (0 : Int32))])) (fun _ k => XS.iloadN X71.here hx rfl (hb hby d1_75) rfl k) ?_
                    refine Dn.by (U' := T71.setTop (mkF m 83 #[.val (.ref o0), .val (.int p1), .val (.int (0 : Int32))] [])) (fun _ k => XS.ifYes X71.here hx rfl (pc0 := 76) (pc' := 83) rfl (hb hby d1_76) rfl (by decide) (by decide) (by decide) k) ?_
                    refine Dn.by (U' := T71.setTop (mkF m 84 #[.val (.ref o0), .val (.int p1), .val (.int (0 : Int32))] [(.int (0 : Int32))])) (fun _ k => XS.iconst X71.here hx rfl (hb hby d1_83)  k) ?_
                    refine Dn.out X71 (v := (some (.int (0 : Int32)))) (fun h => by rw [Bd.returns] at h; cases h) (BodyLoose.notSynchronized Bd) (fun _ hr => retN X71 hx (t := .boolean) Bd.returns (by simp) (hb hby d1_84) hr) (by decide) (by decide) ?_
                    rw [e71]
                    exact ⟨by simp only [hor, if_neg c2_1, if_pos c8_52, if_neg c14_53, if_neg c20_56, if_pos c26_59, if_neg c38_60, if_pos c45_69, if_pos c52_70, if_pos c72_72], N0, rfl⟩
                  ·
                    refine Dn.by (U' := T71.setTop (mkF m 83 #[.val (.ref o0), .val (.int p1), .val (.int (0 : Int32))] [])) (fun _ k => Jvm.RoadKit.acmp (g := (mkF m 72 #[.val (.ref o0), .val (.int p1), .val (.int (0 : Int32))] [(.ref s_XML_1_1), (.ref o0)])) X71 hx rfl rfl rfl (pc0 := 72) (pc' := 83) (same := false) rfl (hb hby d1_72) rfl (decide_eq_false fun q => c72_72 (Value.ref.inj q)) (by decide) (by decide) k) ?_
                    refine Dn.by (U' := T71.setTop (mkF m 84 #[.val (.ref o0), .val (.int p1), .val (.int (0 : Int32))] [(.int (0 : Int32))])) (fun _ k => XS.iconst X71.here hx rfl (hb hby d1_83)  k) ?_
                    refine Dn.out X71 (v := (some (.int (0 : Int32)))) (fun h => by rw [Bd.returns] at h; cases h) (BodyLoose.notSynchronized Bd) (fun _ hr => retN X71 hx (t := .boolean) Bd.returns (by simp) (hb hby d1_84) hr) (by decide) (by decide) ?_
                    rw [e71]
                    exact ⟨by simp only [hor, if_neg c2_1, if_pos c8_52, if_neg c14_53, if_neg c20_56, if_pos c26_59, if_neg c38_60, if_pos c45_69, if_pos c52_70, if_neg c72_72], N0, rfl⟩
                ·
                  refine Dn.by (U' := s₁.setTop (mkF m 55 #[.val (.ref o0), .val (.int p1), .unset] [])) (fun _ k => XS.icmpNo X0.here hx rfl (hb hby d1_52) rfl (flt c52_70).1 k) ?_
                  refine Dn.by (U' := s₁.setTop (mkF m 56 #[.val (.ref o0), .val (.int p1), .unset] [(.int p1)])) (fun _ k => XS.iloadN X0.here hx rfl (hb hby d1_55) rfl k) ?_
                  refine Dn.by (U' := s₁.setTop (mkF m 59 #[.val (.ref o0), .val (.int p1), .unset] [(.int (159 : Int32)), (.int p1)])) (fun _ k => XS.sipush X0.here hx rfl (hb hby d1_56)  k) ?_
                  by_cases c59_73 : (159 : Int32) < p1
                  ·
                    refine Dn.by (U' := s₁.setTop (mkF m 66 #[.val (.ref o0), .val (.int p1), .unset] [])) (fun _ k => XS.icmpYes X0.here hx rfl (pc0 := 59) (pc' := 66) rfl (hb hby d1_59) rfl (tlt c59_73).2.2.1 (by decide) (by decide) k) ?_
                    refine Dn.by (U' := s₁.setTop (mkF m 67 #[.val (.ref o0), .val (.int p1), .unset] [(.int (0 : Int32))])) (fun _ k => XS.iconst X0.here hx rfl (hb hby d1_66)  k) ?_
                    refine Dn.by (U' := s₁.setTop (mkF m 68 #[.val (.ref o0), .val (.int p1), .val (.int (0 : Int32))] [])) (fun _ k => XS.istoreN X0.here hx rfl (hb hby d1_67) rfl (l' := #[.val (.ref o0), .val (.int p1), .val (.int (0 : Int32))]) rfl k) ?_
                    refine Dn.by (U' := s₁.setTop (mkF m 69 #[.val (.ref o0), .val (.int p1), .val (.int (0 : Int32))] [(.ref o0)])) (fun _ k => XS.aloadN X0.here hx rfl (hb hby d1_68) rfl rfl k) ?_
                    obtain ⟨T74, X74, e74, st74⟩ := getS2 X0 hx hZ (a0 := a0) hown (host := "") (Or.inl (hw _ (List.mem_of_getElem? (i := 8) rfl))) Via.refl e0 S_XML_1_1 (g := (mkF m 69 #[.val (.ref o0), .val (.int p1), .val (.int (0 : Int32))] [(.ref o0)])) rfl (hb hby d1_69)
                    refine Dn.by (U' := T74.setTop (mkF m 72 #[.val (.ref o0), .val (.int p1), .val (.int (0 : Int32))] [(.ref s_XML_1_1), (.ref o0)])) st74 ?_
                    by_cases c72_75 : o0 = s_XML_1_1
                    ·
                      refine Dn.by (U' := T74.setTop (mkF m 75 #[.val (.ref o0), .val (.int p1), .val (.int (0 : Int32))] [])) (fun _ k => Jvm.RoadKit.acmp (g := (mkF m 72 #[.val (.ref o0), .val (.int p1), .val (.int (0 : Int32))] [(.ref s_XML_1_1), (.ref o0)])) X74 hx rfl rfl rfl (pc0 := 72) (pc' := 75) (same := true) rfl (hb hby d1_72) rfl (decide_eq_true (congrArg Value.ref c72_75)) (by decide) (by decide) k) ?_
                      refine Dn.by (U' := T74.setTop (mkF m 76 #[.val (.ref o0), .val (.int p1), .val (.int (0 : Int32))] [(.int (0 : Int32))])) (fun _ k => XS.iloadN X74.here hx rfl (hb hby d1_75) rfl k) ?_
                      refine Dn.by (U' := T74.setTop (mkF m 83 #[.val (.ref o0), .val (.int p1), .val (.int (0 : Int32))] [])) (fun _ k => XS.ifYes X74.here hx rfl (pc0 := 76) (pc' := 83) rfl (hb hby d1_76) rfl (by decide) (by decide) (by decide) k) ?_
                      refine Dn.by (U' := T74.setTop (mkF m 84 #[.val (.ref o0), .val (.int p1), .val (.int (0 : Int32))] [(.int (0 : Int32))])) (fun _ k => XS.iconst X74.here hx rfl (hb hby d1_83)  k) ?_
                      refine Dn.out X74 (v := (some (.int (0 : Int32)))) (fun h => by rw [Bd.returns] at h; cases h) (BodyLoose.notSynchronized Bd) (fun _ hr => retN X74 hx (t := .boolean) Bd.returns (by simp) (hb hby d1_84) hr) (by decide) (by decide) ?_
                      rw [e74]
                      exact ⟨by simp only [hor, if_neg c2_1, if_pos c8_52, if_neg c14_53, if_neg c20_56, if_pos c26_59, if_neg c38_60, if_pos c45_69, if_neg c52_70, if_pos c59_73, if_pos c72_75], N0, rfl⟩
                    ·
                      refine Dn.by (U' := T74.setTop (mkF m 83 #[.val (.ref o0), .val (.int p1), .val (.int (0 : Int32))] [])) (fun _ k => Jvm.RoadKit.acmp (g := (mkF m 72 #[.val (.ref o0), .val (.int p1), .val (.int (0 : Int32))] [(.ref s_XML_1_1), (.ref o0)])) X74 hx rfl rfl rfl (pc0 := 72) (pc' := 83) (same := false) rfl (hb hby d1_72) rfl (decide_eq_false fun q => c72_75 (Value.ref.inj q)) (by decide) (by decide) k) ?_
                      refine Dn.by (U' := T74.setTop (mkF m 84 #[.val (.ref o0), .val (.int p1), .val (.int (0 : Int32))] [(.int (0 : Int32))])) (fun _ k => XS.iconst X74.here hx rfl (hb hby d1_83)  k) ?_
                      refine Dn.out X74 (v := (some (.int (0 : Int32)))) (fun h => by rw [Bd.returns] at h; cases h) (BodyLoose.notSynchronized Bd) (fun _ hr => retN X74 hx (t := .boolean) Bd.returns (by simp) (hb hby d1_84) hr) (by decide) (by decide) ?_
                      rw [e74]
                      exact ⟨by simp only [hor, if_neg c2_1, if_pos c8_52, if_neg c14_53, if_neg c20_56, if_pos c26_59, if_neg c38_60, if_pos c45_69, if_neg c52_70, if_pos c59_73, if_neg c72_75], N0, rfl⟩
                  ·
                    refine Dn.by (U' := s₁.setTop (mkF m 62 #[.val (.ref o0), .val (.int p1), .unset] [])) (fun _ k => XS.icmpNo X0.here hx rfl (hb hby d1_59) rfl (flt c59_73).2.2.1 k) ?_
                    refine Dn.by (U' := s₁.setTop (mkF m 63 #[.val (.ref o0), .val (.int p1), .unset] [(.int (1 : Int32))])) (fun _ k => XS.iconst X0.here hx rfl (hb hby d1_62)  k) ?_
                    refine Dn.by (U' := s₁.setTop (mkF m 67 #[.val (.ref o0), .val (.int p1), .unset] [(.int (1 : Int32))])) (fun _ k => XS.goto X0.here hx rfl (pc0 := 63) (pc' := 67) rfl (hb hby d1_63) (by decide) (by decide) k) ?_
                    refine Dn.by (U' := s₁.setTop (mkF m 68 #[.val (.ref o0), .val (.int p1), .val (.int (1 : Int32))] [])) (fun _ k => XS.istoreN X0.here hx rfl (hb hby d1_67) rfl (l' := #[.val (.ref o0), .val (.int p1), .val (.int (1 : Int32))]) rfl k) ?_
                    refine Dn.by (U' := s₁.setTop (mkF m 69 #[.val (.ref o0), .val (.int p1), .val (.int (1 : Int32))] [(.ref o0)])) (fun _ k => XS.aloadN X0.here hx rfl (hb hby d1_68) rfl rfl k) ?_
                    obtain ⟨T76, X76, e76, st76⟩ := getS2 X0 hx hZ (a0 := a0) hown (host := "") (Or.inl (hw _ (List.mem_of_getElem? (i := 8) rfl))) Via.refl e0 S_XML_1_1 (g := (mkF m 69 #[.val (.ref o0), .val (.int p1), .val (.int (1 : Int32))] [(.ref o0)])) rfl (hb hby d1_69)
                    refine Dn.by (U' := T76.setTop (mkF m 72 #[.val (.ref o0), .val (.int p1), .val (.int (1 : Int32))] [(.ref s_XML_1_1), (.ref o0)])) st76 ?_
                    by_cases c72_77 : o0 = s_XML_1_1
                    ·
                      refine Dn.by (U' := T76.setTop (mkF m 75 #[.val (.ref o0), .val (.int p1), .val (.int (1 : Int32))] [])) (fun _ k => Jvm.RoadKit.acmp (g := (mkF m 72 #[.val (.ref o0), .val (.int p1), .val (.int (1 : Int32))] [(.ref s_XML_1_1), (.ref o0)])) X76 hx rfl rfl rfl (pc0 := 72) (pc' := 75) (same := true) rfl (hb hby d1_72) rfl (decide_eq_true (congrArg Value.ref c72_77)) (by decide) (by decide) k) ?_
                      refine Dn.by (U' := T76.setTop (mkF m 76 #[.val (.ref o0), .val (.int p1), .val (.int (1 : Int32))] [(.int (1 : Int32))])) (fun _ k => XS.iloadN X76.here hx rfl (hb hby d1_75) rfl k) ?_
                      refine Dn.by (U' := T76.setTop (mkF m 79 #[.val (.ref o0), .val (.int p1), .val (.int (1 : Int32))] [])) (fun _ k => XS.ifNo X76.here hx rfl (hb hby d1_76) rfl (by decide) k) ?_
                      refine Dn.by (U' := T76.setTop (mkF m 80 #[.val (.ref o0), .val (.int p1), .val (.int (1 : Int32))] [(.int (1 : Int32))])) (fun _ k => XS.iconst X76.here hx rfl (hb hby d1_79)  k) ?_
                      refine Dn.by (U' := T76.setTop (mkF m 84 #[.val (.ref o0), .val (.int p1), .val (.int (1 : Int32))] [(.int (1 : Int32))])) (fun _ k => XS.goto X76.here hx rfl (pc0 := 80) (pc' := 84) rfl (hb hby d1_80) (by decide) (by decide) k) ?_
                      refine Dn.out X76 (v := (some (.int (1 : Int32)))) (fun h => by rw [Bd.returns] at h; cases h) (BodyLoose.notSynchronized Bd) (fun _ hr => retN X76 hx (t := .boolean) Bd.returns (by simp) (hb hby d1_84) hr) (by decide) (by decide) ?_
                      rw [e76]
                      exact ⟨by simp only [hor, if_neg c2_1, if_pos c8_52, if_neg c14_53, if_neg c20_56, if_pos c26_59, if_neg c38_60, if_pos c45_69, if_neg c52_70, if_neg c59_73, if_pos c72_77], N0, rfl⟩
                    ·
                      refine Dn.by (U' := T76.setTop (mkF m 83 #[.val (.ref o0), .val (.int p1), .val (.int (1 : Int32))] [])) (fun _ k => Jvm.RoadKit.acmp (g := (mkF m 72 #[.val (.ref o0), .val (.int p1), .val (.int (1 : Int32))] [(.ref s_XML_1_1), (.ref o0)])) X76 hx rfl rfl rfl (pc0 := 72) (pc' := 83) (same := false) rfl (hb hby d1_72) rfl (decide_eq_false fun q => c72_77 (Value.ref.inj q)) (by decide) (by decide) k) ?_
                      refine Dn.by (U' := T76.setTop (mkF m 84 #[.val (.ref o0), .val (.int p1), .val (.int (1 : Int32))] [(.int (0 : Int32))])) (fun _ k => XS.iconst X76.here hx rfl (hb hby d1_83)  k) ?_
                      refine Dn.out X76 (v := (some (.int (0 : Int32)))) (fun h => by rw [Bd.returns] at h; cases h) (BodyLoose.notSynchronized Bd) (fun _ hr => retN X76 hx (t := .boolean) Bd.returns (by simp) (hb hby d1_84) hr) (by decide) (by decide) ?_
                      rw [e76]
                      exact ⟨by simp only [hor, if_neg c2_1, if_pos c8_52, if_neg c14_53, if_neg c20_56, if_pos c26_59, if_neg c38_60, if_pos c45_69, if_neg c52_70, if_neg c59_73, if_neg c72_77], N0, rfl⟩
              ·
                refine Dn.by (U' := s₁.setTop (mkF m 62 #[.val (.ref o0), .val (.int p1), .unset] [])) (fun _ k => XS.icmpYes X0.here hx rfl (pc0 := 45) (pc' := 62) rfl (hb hby d1_45) rfl (flt c45_69).2.2.2 (by decide) (by decide) k) ?_
                refine Dn.by (U' := s₁.setTop (mkF m 63 #[.val (.ref o0), .val (.int p1), .unset] [(.int (1 : Int32))])) (fun _ k => XS.iconst X0.here hx rfl (hb hby d1_62)  k) ?_
                refine Dn.by (U' := s₁.setTop (mkF m 67 #[.val (.ref o0), .val (.int p1), .unset] [(.int (1 : Int32))])) (fun _ k => XS.goto X0.here hx rfl (pc0 := 63) (pc' := 67) rfl (hb hby d1_63) (by decide) (by decide) k) ?_
                refine Dn.by (U' := s₁.setTop (mkF m 68 #[.val (.ref o0), .val (.int p1), .val (.int (1 : Int32))] [])) (fun _ k => XS.istoreN X0.here hx rfl (hb hby d1_67) rfl (l' := #[.val (.ref o0), .val (.int p1), .val (.int (1 : Int32))]) rfl k) ?_
                refine Dn.by (U' := s₁.setTop (mkF m 69 #[.val (.ref o0), .val (.int p1), .val (.int (1 : Int32))] [(.ref o0)])) (fun _ k => XS.aloadN X0.here hx rfl (hb hby d1_68) rfl rfl k) ?_
                obtain ⟨T78, X78, e78, st78⟩ := getS2 X0 hx hZ (a0 := a0) hown (host := "") (Or.inl (hw _ (List.mem_of_getElem? (i := 8) rfl))) Via.refl e0 S_XML_1_1 (g := (mkF m 69 #[.val (.ref o0), .val (.int p1), .val (.int (1 : Int32))] [(.ref o0)])) rfl (hb hby d1_69)
                refine Dn.by (U' := T78.setTop (mkF m 72 #[.val (.ref o0), .val (.int p1), .val (.int (1 : Int32))] [(.ref s_XML_1_1), (.ref o0)])) st78 ?_
                by_cases c72_79 : o0 = s_XML_1_1
                ·
                  refine Dn.by (U' := T78.setTop (mkF m 75 #[.val (.ref o0), .val (.int p1), .val (.int (1 : Int32))] [])) (fun _ k => Jvm.RoadKit.acmp (g := (mkF m 72 #[.val (.ref o0), .val (.int p1), .val (.int (1 : Int32))] [(.ref s_XML_1_1), (.ref o0)])) X78 hx rfl rfl rfl (pc0 := 72) (pc' := 75) (same := true) rfl (hb hby d1_72) rfl (decide_eq_true (congrArg Value.ref c72_79)) (by decide) (by decide) k) ?_
                  refine Dn.by (U' := T78.setTop (mkF m 76 #[.val (.ref o0), .val (.int p1), .val (.int (1 : Int32))] [(.int (1 : Int32))])) (fun _ k => XS.iloadN X78.here hx rfl (hb hby d1_75) rfl k) ?_
                  refine Dn.by (U' := T78.setTop (mkF m 79 #[.val (.ref o0), .val (.int p1), .val (.int (1 : Int32))] [])) (fun _ k => XS.ifNo X78.here hx rfl (hb hby d1_76) rfl (by decide) k) ?_
                  refine Dn.by (U' := T78.setTop (mkF m 80 #[.val (.ref o0), .val (.int p1), .val (.int (1 : Int32))] [(.int (1 : Int32))])) (fun _ k => XS.iconst X78.here hx rfl (hb hby d1_79)  k) ?_
                  refine Dn.by (U' := T78.setTop (mkF m 84 #[.val (.ref o0), .val (.int p1), .val (.int (1 : Int32))] [(.int (1 : Int32))])) (fun _ k => XS.goto X78.here hx rfl (pc0 := 80) (pc' := 84) rfl (hb hby d1_80) (by decide) (by decide) k) ?_
                  refine Dn.out X78 (v := (some (.int (1 : Int32)))) (fun h => by rw [Bd.returns] at h; cases h) (BodyLoose.notSynchronized Bd) (fun _ hr => retN X78 hx (t := .boolean) Bd.returns (by simp) (hb hby d1_84) hr) (by decide) (by decide) ?_
                  rw [e78]
                  exact ⟨by simp only [hor, if_neg c2_1, if_pos c8_52, if_neg c14_53, if_neg c20_56, if_pos c26_59, if_neg c38_60, if_neg c45_69, if_pos c72_79], N0, rfl⟩
                ·
                  refine Dn.by (U' := T78.setTop (mkF m 83 #[.val (.ref o0), .val (.int p1), .val (.int (1 : Int32))] [])) (fun _ k => Jvm.RoadKit.acmp (g := (mkF m 72 #[.val (.ref o0), .val (.int p1), .val (.int (1 : Int32))] [(.ref s_XML_1_1), (.ref o0)])) X78 hx rfl rfl rfl (pc0 := 72) (pc' := 83) (same := false) rfl (hb hby d1_72) rfl (decide_eq_false fun q => c72_79 (Value.ref.inj q)) (by decide) (by decide) k) ?_
                  refine Dn.by (U' := T78.setTop (mkF m 84 #[.val (.ref o0), .val (.int p1), .val (.int (1 : Int32))] [(.int (0 : Int32))])) (fun _ k => XS.iconst X78.here hx rfl (hb hby d1_83)  k) ?_
                  refine Dn.out X78 (v := (some (.int (0 : Int32)))) (fun h => by rw [Bd.returns] at h; cases h) (BodyLoose.notSynchronized Bd) (fun _ hr => retN X78 hx (t := .boolean) Bd.returns (by simp) (hb hby d1_84) hr) (by decide) (by decide) ?_
                  rw [e78]
                  exact ⟨by simp only [hor, if_neg c2_1, if_pos c8_52, if_neg c14_53, if_neg c20_56, if_pos c26_59, if_neg c38_60, if_neg c45_69, if_neg c72_79], N0, rfl⟩
          ·
            refine Dn.by (U' := s₁.setTop (mkF m 29 #[.val (.ref o0), .val (.int p1), .unset] [])) (fun _ k => XS.icmpNo X0.here hx rfl (hb hby d1_26) rfl (flt c26_59).1 k) ?_
            refine Dn.by (U' := s₁.setTop (mkF m 30 #[.val (.ref o0), .val (.int p1), .unset] [(.int p1)])) (fun _ k => XS.iloadN X0.here hx rfl (hb hby d1_29) rfl k) ?_
            refine Dn.by (U' := s₁.setTop (mkF m 32 #[.val (.ref o0), .val (.int p1), .unset] [(.int (31 : Int32)), (.int p1)])) (fun _ k => XS.bipush X0.here hx rfl (hb hby d1_30)  k) ?_
            by_cases c32_80 : (31 : Int32) < p1
            ·
              refine Dn.by (U' := s₁.setTop (mkF m 35 #[.val (.ref o0), .val (.int p1), .unset] [])) (fun _ k => XS.icmpNo X0.here hx rfl (hb hby d1_32) rfl (tlt c32_80).2.2.2 k) ?_
              refine Dn.by (U' := s₁.setTop (mkF m 36 #[.val (.ref o0), .val (.int p1), .unset] [(.int p1)])) (fun _ k => XS.iloadN X0.here hx rfl (hb hby d1_35) rfl k) ?_
              refine Dn.by (U' := s₁.setTop (mkF m 38 #[.val (.ref o0), .val (.int p1), .unset] [(.int (127 : Int32)), (.int p1)])) (fun _ k => XS.bipush X0.here hx rfl (hb hby d1_36)  k) ?_
              by_cases c38_81 : p1 < (127 : Int32)
              ·
                refine Dn.by (U' := s₁.setTop (mkF m 48 #[.val (.ref o0), .val (.int p1), .unset] [])) (fun _ k => XS.icmpYes X0.here hx rfl (pc0 := 38) (pc' := 48) rfl (hb hby d1_38) rfl (tlt c38_81).1 (by decide) (by decide) k) ?_
                refine Dn.by (U' := s₁.setTop (mkF m 49 #[.val (.ref o0), .val (.int p1), .unset] [(.int p1)])) (fun _ k => XS.iloadN X0.here hx rfl (hb hby d1_48) rfl k) ?_
                refine Dn.by (U' := s₁.setTop (mkF m 52 #[.val (.ref o0), .val (.int p1), .unset] [(.int (134 : Int32)), (.int p1)])) (fun _ k => XS.sipush X0.here hx rfl (hb hby d1_49)  k) ?_
                by_cases c52_82 : p1 < (134 : Int32)
                ·
                  refine Dn.by (U' := s₁.setTop (mkF m 66 #[.val (.ref o0), .val (.int p1), .unset] [])) (fun _ k => XS.icmpYes X0.here hx rfl (pc0 := 52) (pc' := 66) rfl (hb hby d1_52) rfl (tlt c52_82).1 (by decide) (by decide) k) ?_
                  refine Dn.by (U' := s₁.setTop (mkF m 67 #[.val (.ref o0), .val (.int p1), .unset] [(.int (0 : Int32))])) (fun _ k => XS.iconst X0.here hx rfl (hb hby d1_66)  k) ?_
                  refine Dn.by (U' := s₁.setTop (mkF m 68 #[.val (.ref o0), .val (.int p1), .val (.int (0 : Int32))] [])) (fun _ k => XS.istoreN X0.here hx rfl (hb hby d1_67) rfl (l' := #[.val (.ref o0), .val (.int p1), .val (.int (0 : Int32))]) rfl k) ?_
                  refine Dn.by (U' := s₁.setTop (mkF m 69 #[.val (.ref o0), .val (.int p1), .val (.int (0 : Int32))] [(.ref o0)])) (fun _ k => XS.aloadN X0.here hx rfl (hb hby d1_68) rfl rfl k) ?_
                  obtain ⟨T83, X83, e83, st83⟩ := getS2 X0 hx hZ (a0 := a0) hown (host := "") (Or.inl (hw _ (List.mem_of_getElem? (i := 8) rfl))) Via.refl e0 S_XML_1_1 (g := (mkF m 69 #[.val (.ref o0), .val (.int p1), .val (.int (0 : Int32))] [(.ref o0)])) rfl (hb hby d1_69)
                  refine Dn.by (U' := T83.setTop (mkF m 72 #[.val (.ref o0), .val (.int p1), .val (.int (0 : Int32))] [(.ref s_XML_1_1), (.ref o0)])) st83 ?_
                  by_cases c72_84 : o0 = s_XML_1_1
                  ·
                    refine Dn.by (U' := T83.setTop (mkF m 75 #[.val (.ref o0), .val (.int p1), .val (.int (0 : Int32))] [])) (fun _ k => Jvm.RoadKit.acmp (g := (mkF m 72 #[.val (.ref o0), .val (.int p1), .val (.int (0 : Int32))] [(.ref s_XML_1_1), (.ref o0)])) X83 hx rfl rfl rfl (pc0 := 72) (pc' := 75) (same := true) rfl (hb hby d1_72) rfl (decide_eq_true (congrArg Value.ref c72_84)) (by decide) (by decide) k) ?_
                    refine Dn.by (U' := T83.setTop (mkF m 76 #[.val (.ref o0), .val (.int p1), .val (.int (0 : Int32))] [(.int (0 : Int32))])) (fun _ k => XS.iloadN X83.here hx rfl (hb hby d1_75) rfl k) ?_
                    refine Dn.by (U' := T83.setTop (mkF m 83 #[.val (.ref o0), .val (.int p1), .val (.int (0 : Int32))] [])) (fun _ k => XS.ifYes X83.here hx rfl (pc0 := 76) (pc' := 83) rfl (hb hby d1_76) rfl (by decide) (by decide) (by decide) k) ?_
                    refine Dn.by (U' := T83.setTop (mkF m 84 #[.val (.ref o0), .val (.int p1), .val (.int (0 : Int32))] [(.int (0 : Int32))])) (fun _ k => XS.iconst X83.here hx rfl (hb hby d1_83)  k) ?_
                    refine Dn.out X83 (v := (some (.int (0 : Int32)))) (fun h => by rw [Bd.returns] at h; cases h) (BodyLoose.notSynchronized Bd) (fun _ hr => retN X83 hx (t := .boolean) Bd.returns (by simp) (hb hby d1_84) hr) (by decide) (by decide) ?_
                    rw [e83]
                    exact ⟨by simp only [hor, if_neg c2_1, if_pos c8_52, if_neg c14_53, if_neg c20_56, if_neg c26_59, if_pos c32_80, if_pos c38_81, if_pos c52_82, if_pos c72_84], N0, rfl⟩
                  ·
                    refine Dn.by (U' := T83.setTop (mkF m 83 #[.val (.ref o0), .val (.int p1), .val (.int (0 : Int32))] [])) (fun _ k => Jvm.RoadKit.acmp (g := (mkF m 72 #[.val (.ref o0), .val (.int p1), .val (.int (0 : Int32))] [(.ref s_XML_1_1), (.ref o0)])) X83 hx rfl rfl rfl (pc0 := 72) (pc' := 83) (same := false) rfl (hb hby d1_72) rfl (decide_eq_false fun q => c72_84 (Value.ref.inj q)) (by decide) (by decide) k) ?_
                    refine Dn.by (U' := T83.setTop (mkF m 84 #[.val (.ref o0), .val (.int p1), .val (.int (0 : Int32))] [(.int (0 : Int32))])) (fun _ k => XS.iconst X83.here hx rfl (hb hby d1_83)  k) ?_
                    refine Dn.out X83 (v := (some (.int (0 : Int32)))) (fun h => by rw [Bd.returns] at h; cases h) (BodyLoose.notSynchronized Bd) (fun _ hr => retN X83 hx (t := .boolean) Bd.returns (by simp) (hb hby d1_84) hr) (by decide) (by decide) ?_
                    rw [e83]
                    exact ⟨by simp only [hor, if_neg c2_1, if_pos c8_52, if_neg c14_53, if_neg c20_56, if_neg c26_59, if_pos c32_80, if_pos c38_81, if_pos c52_82, if_neg c72_84], N0, rfl⟩
                ·
                  refine Dn.by (U' := s₁.setTop (mkF m 55 #[.val (.ref o0), .val (.int p1), .unset] [])) (fun _ k => XS.icmpNo X0.here hx rfl (hb hby d1_52) rfl (flt c52_82).1 k) ?_
                  refine Dn.by (U' := s₁.setTop (mkF m 56 #[.val (.ref o0), .val (.int p1), .unset] [(.int p1)])) (fun _ k => XS.iloadN X0.here hx rfl (hb hby d1_55) rfl k) ?_
                  refine Dn.by (U' := s₁.setTop (mkF m 59 #[.val (.ref o0), .val (.int p1), .unset] [(.int (159 : Int32)), (.int p1)])) (fun _ k => XS.sipush X0.here hx rfl (hb hby d1_56)  k) ?_
                  by_cases c59_85 : (159 : Int32) < p1
                  ·
                    refine Dn.by (U' := s₁.setTop (mkF m 66 #[.val (.ref o0), .val (.int p1), .unset] [])) (fun _ k => XS.icmpYes X0.here hx rfl (pc0 := 59) (pc' := 66) rfl (hb hby d1_59) rfl (tlt c59_85).2.2.1 (by decide) (by decide) k) ?_
                    refine Dn.by (U' := s₁.setTop (mkF m 67 #[.val (.ref o0), .val (.int p1), .unset] [(.int (0 : Int32))])) (fun _ k => XS.iconst X0.here hx rfl (hb hby d1_66)  k) ?_
                    refine Dn.by (U' := s₁.setTop (mkF m 68 #[.val (.ref o0), .val (.int p1), .val (.int (0 : Int32))] [])) (fun _ k => XS.istoreN X0.here hx rfl (hb hby d1_67) rfl (l' := #[.val (.ref o0), .val (.int p1), .val (.int (0 : Int32))]) rfl k) ?_
                    refine Dn.by (U' := s₁.setTop (mkF m 69 #[.val (.ref o0), .val (.int p1), .val (.int (0 : Int32))] [(.ref o0)])) (fun _ k => XS.aloadN X0.here hx rfl (hb hby d1_68) rfl rfl k) ?_
                    obtain ⟨T86, X86, e86, st86⟩ := getS2 X0 hx hZ (a0 := a0) hown (host := "") (Or.inl (hw _ (List.mem_of_getElem? (i := 8) rfl))) Via.refl e0 S_XML_1_1 (g := (mkF m 69 #[.val (.ref o0), .val (.int p1), .val (.int (0 : Int32))] [(.ref o0)])) rfl (hb hby d1_69)
                    refine Dn.by (U' := T86.setTop (mkF m 72 #[.val (.ref o0), .val (.int p1), .val (.int (0 : Int32))] [(.ref s_XML_1_1), (.ref o0)])) st86 ?_
                    by_cases c72_87 : o0 = s_XML_1_1
                    ·
                      refine Dn.by (U' := T86.setTop (mkF m 75 #[.val (.ref o0), .val (.int p1), .val (.int (0 : Int32))] [])) (fun _ k => Jvm.RoadKit.acmp (g := (mkF m 72 #[.val (.ref o0), .val (.int p1), .val (.int (0 : Int32))] [(.ref s_XML_1_1), (.ref o0)])) X86 hx rfl rfl rfl (pc0 := 72) (pc' := 75) (same := true) rfl (hb hby d1_72) rfl (decide_eq_true (congrArg Value.ref c72_87)) (by decide) (by decide) k) ?_
                      refine Dn.by (U' := T86.setTop (mkF m 76 #[.val (.ref o0), .val (.int p1), .val (.int (0 : Int32))] [(.int (0 : Int32))])) (fun _ k => XS.iloadN X86.here hx rfl (hb hby d1_75) rfl k) ?_
                      refine Dn.by (U' := T86.setTop (mkF m 83 #[.val (.ref o0), .val (.int p1), .val (.int (0 : Int32))] [])) (fun _ k => XS.ifYes X86.here hx rfl (pc0 := 76) (pc' := 83) rfl (hb hby d1_76) rfl (by decide) (by decide) (by decide) k) ?_
                      refine Dn.by (U' := T86.setTop (mkF m 84 #[.val (.ref o0), .val (.int p1), .val (.int (0 : Int32))] [(.int (0 : Int32))])) (fun _ k => XS.iconst X86.here hx rfl (hb hby d1_83)  k) ?_
                      refine Dn.out X86 (v := (some (.int (0 : Int32)))) (fun h => by rw [Bd.returns] at h; cases h) (BodyLoose.notSynchronized Bd) (fun _ hr => retN X86 hx (t := .boolean) Bd.returns (by simp) (hb hby d1_84) hr) (by decide) (by decide) ?_
                      rw [e86]
                      exact ⟨by simp only [hor, if_neg c2_1, if_pos c8_52, if_neg c14_53, if_neg c20_56, if_neg c26_59, if_pos c32_80, if_pos c38_81, if_neg c52_82, if_pos c59_85, if_pos c72_87], N0, rfl⟩
                    ·
                      refine Dn.by (U' := T86.setTop (mkF m 83 #[.val (.ref o0), .val (.int p1), .val (.int (0 : Int32))] [])) (fun _ k => Jvm.RoadKit.acmp (g := (mkF m 72 #[.val (.ref o0), .val (.int p1), .val (.int (0 : Int32))] [(.ref s_XML_1_1), (.ref o0)])) X86 hx rfl rfl rfl (pc0 := 72) (pc' := 83) (same := false) rfl (hb hby d1_72) rfl (decide_eq_false fun q => c72_87 (Value.ref.inj q)) (by decide) (by decide) k) ?_
                      refine Dn.by (U' := T86.setTop (mkF m 84 #[.val (.ref o0), .val (.int p1), .val (.int (0 : Int32))] [(.int (0 : Int32))])) (fun _ k => XS.iconst X86.here hx rfl (hb hby d1_83)  k) ?_
                      refine Dn.out X86 (v := (some (.int (0 : Int32)))) (fun h => by rw [Bd.returns] at h; cases h) (BodyLoose.notSynchronized Bd) (fun _ hr => retN X86 hx (t := .boolean) Bd.returns (by simp) (hb hby d1_84) hr) (by decide) (by decide) ?_
                      rw [e86]
                      exact ⟨by simp only [hor, if_neg c2_1, if_pos c8_52, if_neg c14_53, if_neg c20_56, if_neg c26_59, if_pos c32_80, if_pos c38_81, if_neg c52_82, if_pos c59_85, if_neg c72_87], N0, rfl⟩
                  ·
                    refine Dn.by (U' := s₁.setTop (mkF m 62 #[.val (.ref o0), .val (.int p1), .unset] [])) (fun _ k => XS.icmpNo X0.here hx rfl (hb hby d1_59) rfl (flt c59_85).2.2.1 k) ?_
                    refine Dn.by (U' := s₁.setTop (mkF m 63 #[.val (.ref o0), .val (.int p1), .unset] [(.int (1 : Int32))])) (fun _ k => XS.iconst X0.here hx rfl (hb hby d1_62)  k) ?_
                    refine Dn.by (U' := s₁.setTop (mkF m 67 #[.val (.ref o0), .val (.int p1), .unset] [(.int (1 : Int32))])) (fun _ k => XS.goto X0.here hx rfl (pc0 := 63) (pc' := 67) rfl (hb hby d1_63) (by decide) (by decide) k) ?_
                    refine Dn.by (U' := s₁.setTop (mkF m 68 #[.val (.ref o0), .val (.int p1), .val (.int (1 : Int32))] [])) (fun _ k => XS.istoreN X0.here hx rfl (hb hby d1_67) rfl (l' := #[.val (.ref o0), .val (.int p1), .val (.int (1 : Int32))]) rfl k) ?_
                    refine Dn.by (U' := s₁.setTop (mkF m 69 #[.val (.ref o0), .val (.int p1), .val (.int (1 : Int32))] [(.ref o0)])) (fun _ k => XS.aloadN X0.here hx rfl (hb hby d1_68) rfl rfl k) ?_
                    obtain ⟨T88, X88, e88, st88⟩ := getS2 X0 hx hZ (a0 := a0) hown (host := "") (Or.inl (hw _ (List.mem_of_getElem? (i := 8) rfl))) Via.refl e0 S_XML_1_1 (g := (mkF m 69 #[.val (.ref o0), .val (.int p1), .val (.int (1 : Int32))] [(.ref o0)])) rfl (hb hby d1_69)
                    refine Dn.by (U' := T88.setTop (mkF m 72 #[.val (.ref o0), .val (.int p1), .val (.int (1 : Int32))] [(.ref s_XML_1_1), (.ref o0)])) st88 ?_
                    by_cases c72_89 : o0 = s_XML_1_1
                    ·
                      refine Dn.by (U' := T88.setTop (mkF m 75 #[.val (.ref o0), .val (.int p1), .val (.int (1 : Int32))] [])) (fun _ k => Jvm.RoadKit.acmp (g := (mkF m 72 #[.val (.ref o0), .val (.int p1), .val (.int (1 : Int32))] [(.ref s_XML_1_1), (.ref o0)])) X88 hx rfl rfl rfl (pc0 := 72) (pc' := 75) (same := true) rfl (hb hby d1_72) rfl (decide_eq_true (congrArg Value.ref c72_89)) (by decide) (by decide) k) ?_
                      refine Dn.by (U' := T88.setTop (mkF m 76 #[.val (.ref o0), .val (.int p1), .val (.int (1 : Int32))] [(.int (1 : Int32))])) (fun _ k => XS.iloadN X88.here hx rfl (hb hby d1_75) rfl k) ?_
                      refine Dn.by (U' := T88.setTop (mkF m 79 #[.val (.ref o0), .val (.int p1), .val (.int (1 : Int32))] [])) (fun _ k => XS.ifNo X88.here hx rfl (hb hby d1_76) rfl (by decide) k) ?_
                      refine Dn.by (U' := T88.setTop (mkF m 80 #[.val (.ref o0), .val (.int p1), .val (.int (1 : Int32))] [(.int (1 : Int32))])) (fun _ k => XS.iconst X88.here hx rfl (hb hby d1_79)  k) ?_
                      refine Dn.by (U' := T88.setTop (mkF m 84 #[.val (.ref o0), .val (.int p1), .val (.int (1 : Int32))] [(.int (1 : Int32))])) (fun _ k => XS.goto X88.here hx rfl (pc0 := 80) (pc' := 84) rfl (hb hby d1_80) (by decide) (by decide) k) ?_
                      refine Dn.out X88 (v := (some (.int (1 : Int32)))) (fun h => by rw [Bd.returns] at h; cases h) (BodyLoose.notSynchronized Bd) (fun _ hr => retN X88 hx (t := .boolean) Bd.returns (by simp) (hb hby d1_84) hr) (by decide) (by decide) ?_
                      rw [e88]
                      exact ⟨by simp only [hor, if_neg c2_1, if_pos c8_52, if_neg c14_53, if_neg c20_56, if_neg c26_59, if_pos c32_80, if_pos c38_81, if_neg c52_82, if_neg c59_85, if_pos c72_89], N0, rfl⟩
                    ·
                      refine Dn.by (U' := T88.setTop (mkF m 83 #[.val (.ref o0), .val (.int p1), .val (.int (1 : Int32))] [])) (fun _ k => Jvm.RoadKit.acmp (g := (mkF m 72 #[.val (.ref o0), .val (.int p1), .val (.int (1 : Int32))] [(.ref s_XML_1_1), (.ref o0)])) X88 hx rfl rfl rfl (pc0 := 72) (pc' := 83) (same := false) rfl (hb hby d1_72) rfl (decide_eq_false fun q => c72_89 (Value.ref.inj q)) (by decide) (by decide) k) ?_
                      refine Dn.by (U' := T88.setTop (mkF m 84 #[.val (.ref o0), .val (.int p1), .val (.int (1 : Int32))] [(.int (0 : Int32))])) (fun _ k => XS.iconst X88.here hx rfl (hb hby d1_83)  k) ?_
                      refine Dn.out X88 (v := (some (.int (0 : Int32)))) (fun h => by rw [Bd.returns] at h; cases h) (BodyLoose.notSynchronized Bd) (fun _ hr => retN X88 hx (t := .boolean) Bd.returns (by simp) (hb hby d1_84) hr) (by decide) (by decide) ?_
                      rw [e88]
                      exact ⟨by simp only [hor, if_neg c2_1, if_pos c8_52, if_neg c14_53, if_neg c20_56, if_neg c26_59, if_pos c32_80, if_pos c38_81, if_neg c52_82, if_neg c59_85, if_neg c72_89], N0, rfl⟩
              ·
                refine Dn.by (U' := s₁.setTop (mkF m 41 #[.val (.ref o0), .val (.int p1), .unset] [])) (fun _ k => XS.icmpNo X0.here hx rfl (hb hby d1_38) rfl (flt c38_81).1 k) ?_
                refine Dn.by (U' := s₁.setTop (mkF m 42 #[.val (.ref o0), .val (.int p1), .unset] [(.int p1)])) (fun _ k => XS.iloadN X0.here hx rfl (hb hby d1_41) rfl k) ?_
                refine Dn.by (U' := s₁.setTop (mkF m 45 #[.val (.ref o0), .val (.int p1), .unset] [(.int (132 : Int32)), (.int p1)])) (fun _ k => XS.sipush X0.here hx rfl (hb hby d1_42)  k) ?_
                by_cases c45_90 : (132 : Int32) < p1
                ·
                  refine Dn.by (U' := s₁.setTop (mkF m 48 #[.val (.ref o0), .val (.int p1), .unset] [])) (fun _ k => XS.icmpNo X0.here hx rfl (hb hby d1_45) rfl (tlt c45_90).2.2.2 k) ?_
                  refine Dn.by (U' := s₁.setTop (mkF m 49 #[.val (.ref o0), .val (.int p1), .unset] [(.int p1)])) (fun _ k => XS.iloadN X0.here hx rfl (hb hby d1_48) rfl k) ?_
                  refine Dn.by (U' := s₁.setTop (mkF m 52 #[.val (.ref o0), .val (.int p1), .unset] [(.int (134 : Int32)), (.int p1)])) (fun _ k => XS.sipush X0.here hx rfl (hb hby d1_49)  k) ?_
                  by_cases c52_91 : p1 < (134 : Int32)
                  ·
                    refine Dn.by (U' := s₁.setTop (mkF m 66 #[.val (.ref o0), .val (.int p1), .unset] [])) (fun _ k => XS.icmpYes X0.here hx rfl (pc0 := 52) (pc' := 66) rfl (hb hby d1_52) rfl (tlt c52_91).1 (by decide) (by decide) k) ?_
                    refine Dn.by (U' := s₁.setTop (mkF m 67 #[.val (.ref o0), .val (.int p1), .unset] [(.int (0 : Int32))])) (fun _ k => XS.iconst X0.here hx rfl (hb hby d1_66)  k) ?_
                    refine Dn.by (U' := s₁.setTop (mkF m 68 #[.val (.ref o0), .val (.int p1), .val (.int (0 : Int32))] [])) (fun _ k => XS.istoreN X0.here hx rfl (hb hby d1_67) rfl (l' := #[.val (.ref o0), .val (.int p1), .val (.int (0 : Int32))]) rfl k) ?_
                    refine Dn.by (U' := s₁.setTop (mkF m 69 #[.val (.ref o0), .val (.int p1), .val (.int (0 : Int32))] [(.ref o0)])) (fun _ k => XS.aloadN X0.here hx rfl (hb hby d1_68) rfl rfl k) ?_
                    obtain ⟨T92, X92, e92, st92⟩ := getS2 X0 hx hZ (a0 := a0) hown (host := "") (Or.inl (hw _ (List.mem_of_getElem? (i := 8) rfl))) Via.refl e0 S_XML_1_1 (g := (mkF m 69 #[.val (.ref o0), .val (.int p1), .val (.int (0 : Int32))] [(.ref o0)])) rfl (hb hby d1_69)
                    refine Dn.by (U' := T92.setTop (mkF m 72 #[.val (.ref o0), .val (.int p1), .val (.int (0 : Int32))] [(.ref s_XML_1_1), (.ref o0)])) st92 ?_
                    by_cases c72_93 : o0 = s_XML_1_1
                    ·
                      refine Dn.by (U' := T92.setTop (mkF m 75 #[.val (.ref o0), .val (.int p1), .val (.int (0 : Int32))] [])) (fun _ k => Jvm.RoadKit.acmp (g := (mkF m 72 #[.val (.ref o0), .val (.int p1), .val (.int (0 : Int32))] [(.ref s_XML_1_1), (.ref o0)])) X92 hx rfl rfl rfl (pc0 := 72) (pc' := 75) (same := true) rfl (hb hby d1_72) rfl (decide_eq_true (congrArg Value.ref c72_93)) (by decide) (by decide) k) ?_
                      refine Dn.by (U' := T92.setTop (mkF m 76 #[.val (.ref o0), .val (.int p1), .val (.int (0 : Int32))] [(.int (0 : Int32))])) (fun _ k => XS.iloadN X92.here hx rfl (hb hby d1_75) rfl k) ?_
                      refine Dn.by (U' := T92.setTop (mkF m 83 #[.val (.ref o0), .val (.int p1), .val (.int (0 : Int32))] [])) (fun _ k => XS.ifYes X92.here hx rfl (pc0 := 76) (pc' := 83) rfl (hb hby d1_76) rfl (by decide) (by decide) (by decide) k) ?_
                      refine Dn.by (U' := T92.setTop (mkF m 84 #[.val (.ref o0), .val (.int p1), .val (.int (0 : Int32))] [(.int (0 : Int32))])) (fun _ k => XS.iconst X92.here hx rfl (hb hby d1_83)  k) ?_
                      refine Dn.out X92 (v := (some (.int (0 : Int32)))) (fun h => by rw [Bd.returns] at h; cases h) (BodyLoose.notSynchronized Bd) (fun _ hr => retN X92 hx (t := .boolean) Bd.returns (by simp) (hb hby d1_84) hr) (by decide) (by decide) ?_
                      rw [e92]
                      exact ⟨by simp only [hor, if_neg c2_1, if_pos c8_52, if_neg c14_53, if_neg c20_56, if_neg c26_59, if_pos c32_80, if_neg c38_81, if_pos c45_90, if_pos c52_91, if_pos c72_93], N0, rfl⟩
                    ·
                      refine Dn.by (U' := T92.setTop (mkF m 83 #[.val (.ref o0), .val (.int p1), .val (.int (0 : Int32))] [])) (fun _ k => Jvm.RoadKit.acmp (g := (mkF m 72 #[.val (.ref o0), .val (.int p1), .val (.int (0 : Int32))] [(.ref s_XML_1_1), (.ref o0)])) X92 hx rfl rfl rfl (pc0 := 72) (pc' := 83) (same := false) rfl (hb hby d1_72) rfl (decide_eq_false fun q => c72_93 (Value.ref.inj q)) (by decide) (by decide) k) ?_
                      refine Dn.by (U' := T92.setTop (mkF m 84 #[.val (.ref o0), .val (.int p1), .val (.int (0 : Int32))] [(.int (0 : Int32))])) (fun _ k => XS.iconst X92.here hx rfl (hb hby d1_83)  k) ?_
                      refine Dn.out X92 (v := (some (.int (0 : Int32)))) (fun h => by rw [Bd.returns] at h; cases h) (BodyLoose.notSynchronized Bd) (fun _ hr => retN X92 hx (t := .boolean) Bd.returns (by simp) (hb hby d1_84) hr) (by decide) (by decide) ?_
                      rw [e92]
                      exact ⟨by simp only [hor, if_neg c2_1, if_pos c8_52, if_neg c14_53, if_neg c20_56, if_neg c26_59, if_pos c32_80, if_neg c38_81, if_pos c45_90, if_pos c52_91, if_neg c72_93], N0, rfl⟩
                  ·
                    refine Dn.by (U' := s₁.setTop (mkF m 55 #[.val (.ref o0), .val (.int p1), .unset] [])) (fun _ k => XS.icmpNo X0.here hx rfl (hb hby d1_52) rfl (flt c52_91).1 k) ?_
                    refine Dn.by (U' := s₁.setTop (mkF m 56 #[.val (.ref o0), .val (.int p1), .unset] [(.int p1)])) (fun _ k => XS.iloadN X0.here hx rfl (hb hby d1_55) rfl k) ?_
                    refine Dn.by (U' := s₁.setTop (mkF m 59 #[.val (.ref o0), .val (.int p1), .unset] [(.int (159 : Int32)), (.int p1)])) (fun _ k => XS.sipush X0.here hx rfl (hb hby d1_56)  k) ?_
                    by_cases c59_94 : (159 : Int32) < p1
                    ·
                      refine Dn.by (U' := s₁.setTop (mkF m 66 #[.val (.ref o0), .val (.int p1), .unset] [])) (fun _ k => XS.icmpYes X0.here hx rfl (pc0 := 59) (pc' := 66) rfl (hb hby d1_59) rfl (tlt c59_94).2.2.1 (by decide) (by decide) k) ?_
                      refine Dn.by (U' := s₁.setTop (mkF m 67 #[.val (.ref o0), .val (.int p1), .unset] [(.int (0 : Int32))])) (fun _ k => XS.iconst X0.here hx rfl (hb hby d1_66)  k) ?_
                      refine Dn.by (U' := s₁.setTop (mkF m 68 #[.val (.ref o0), .val (.int p1), .val (.int (0 : Int32))] [])) (fun _ k => XS.istoreN X0.here hx rfl (hb hby d1_67) rfl (l' := #[.val (.ref o0), .val (.int p1), .val (.int (0 : Int32))]) rfl k) ?_
                      refine Dn.by (U' := s₁.setTop (mkF m 69 #[.val (.ref o0), .val (.int p1), .val (.int (0 : Int32))] [(.ref o0)])) (fun _ k => XS.aloadN X0.here hx rfl (hb hby d1_68) rfl rfl k) ?_
                      obtain ⟨T95, X95, e95, st95⟩ := getS2 X0 hx hZ (a0 := a0) hown (host := "") (Or.inl (hw _ (List.mem_of_getElem? (i := 8) rfl))) Via.refl e0 S_XML_1_1 (g := (mkF m 69 #[.val (.ref o0), .val (.int p1), .val (.int (0 : Int32))] [(.ref o0)])) rfl (hb hby d1_69)
                      refine Dn.by (U' := T95.setTop (mkF m 72 #[.val (.ref o0), .val (.int p1), .val (.int (0 : Int32))] [(.ref s_XML_1_1), (.ref o0)])) st95 ?_
                      by_cases c72_96 : o0 = s_XML_1_1
                      ·
                        refine Dn.by (U' := T95.setTop (mkF m 75 #[.val (.ref o0), .val (.int p1), .val (.int (0 : Int32))] [])) (fun _ k => Jvm.RoadKit.acmp (g := (mkF m 72 #[.val (.ref o0), .val (.int p1), .val (.int (0 : Int32))] [(.ref s_XML_1_1), (.ref o0)])) X95 hx rfl rfl rfl (pc0 := 72) (pc' := 75) (same := true) rfl (hb hby d1_72) rfl (decide_eq_true (congrArg Value.ref c72_96)) (by decide) (by decide) k) ?_
                        refine Dn.by (U' := T95.setTop (mkF m 76 #[.val (.ref o0), .val (.int p1), .val (.int (0 : Int32))] [(.int (0 : Int32))])) (fun _ k => XS.iloadN X95.here hx rfl (hb hby d1_75) rfl k) ?_
                        refine Dn.by (U' := T95.setTop (mkF m 83 #[.val (.ref o0), .val (.int p1), .val (.int (0 : Int32))] [])) (fun _ k => XS.ifYes X95.here hx rfl (pc0 := 76) (pc' := 83) rfl (hb hby d1_76) rfl (by decide) (by decide) (by decide) k) ?_
                        refine Dn.by (U' := T95.setTop (mkF m 84 #[.val (.ref o0), .val (.int p1), .val (.int (0 : Int32))] [(.int (0 : Int32))])) (fun _ k => XS.iconst X95.here hx rfl (hb hby d1_83)  k) ?_
                        refine Dn.out X95 (v := (some (.int (0 : Int32)))) (fun h => by rw [Bd.returns] at h; cases h) (BodyLoose.notSynchronized Bd) (fun _ hr => retN X95 hx (t := .boolean) Bd.returns (by simp) (hb hby d1_84) hr) (by decide) (by decide) ?_
                        rw [e95]
                        exact ⟨by simp only [hor, if_neg c2_1, if_pos c8_52, if_neg c14_53, if_neg c20_56, if_neg c26_59, if_pos c32_80, if_neg c38_81, if_pos c45_90, if_neg c52_91, if_pos c59_94, if_pos c72_96], N0, rfl⟩
                      ·
                        refine Dn.by (U' := T95.setTop (mkF m 83 #[.val (.ref o0), .val (.int p1), .val (.int (0 : Int32))] [])) (fun _ k => Jvm.RoadKit.acmp (g := (mkF m 72 #[.val (.ref o0), .val (.int p1), .val (.int (0 : Int32))] [(.ref s_XML_1_1), (.ref o0)])) X95 hx rfl rfl rfl (pc0 := 72) (pc' := 83) (same := false) rfl (hb hby d1_72) rfl (decide_eq_false fun q => c72_96 (Value.ref.inj q)) (by decide) (by decide) k) ?_
                        refine Dn.by (U' := T95.setTop (mkF m 84 #[.val (.ref o0), .val (.int p1), .val (.int (0 : Int32))] [(.int (0 : Int32))])) (fun _ k => XS.iconst X95.here hx rfl (hb hby d1_83)  k) ?_
                        refine Dn.out X95 (v := (some (.int (0 : Int32)))) (fun h => by rw [Bd.returns] at h; cases h) (BodyLoose.notSynchronized Bd) (fun _ hr => retN X95 hx (t := .boolean) Bd.returns (by simp) (hb hby d1_84) hr) (by decide) (by decide) ?_
                        rw [e95]
                        exact ⟨by simp only [hor, if_neg c2_1, if_pos c8_52, if_neg c14_53, if_neg c20_56, if_neg c26_59, if_pos c32_80, if_neg c38_81, if_pos c45_90, if_neg c52_91, if_pos c59_94, if_neg c72_96], N0, rfl⟩
                    ·
                      refine Dn.by (U' := s₁.setTop (mkF m 62 #[.val (.ref o0), .val (.int p1), .unset] [])) (fun _ k => XS.icmpNo X0.here hx rfl (hb hby d1_59) rfl (flt c59_94).2.2.1 k) ?_
                      refine Dn.by (U' := s₁.setTop (mkF m 63 #[.val (.ref o0), .val (.int p1), .unset] [(.int (1 : Int32))])) (fun _ k => XS.iconst X0.here hx rfl (hb hby d1_62)  k) ?_
                      refine Dn.by (U' := s₁.setTop (mkF m 67 #[.val (.ref o0), .val (.int p1), .unset] [(.int (1 : Int32))])) (fun _ k => XS.goto X0.here hx rfl (pc0 := 63) (pc' := 67) rfl (hb hby d1_63) (by decide) (by decide) k) ?_
                      refine Dn.by (U' := s₁.setTop (mkF m 68 #[.val (.ref o0), .val (.int p1), .val (.int (1 : Int32))] [])) (fun _ k => XS.istoreN X0.here hx rfl (hb hby d1_67) rfl (l' := #[.val (.ref o0), .val (.int p1), .val (.int (1 : Int32))]) rfl k) ?_
                      refine Dn.by (U' := s₁.setTop (mkF m 69 #[.val (.ref o0), .val (.int p1), .val (.int (1 : Int32))] [(.ref o0)])) (fun _ k => XS.aloadN X0.here hx rfl (hb hby d1_68) rfl rfl k) ?_
                      obtain ⟨T97, X97, e97, st97⟩ := getS2 X0 hx hZ (a0 := a0) hown (host := "") (Or.inl (hw _ (List.mem_of_getElem? (i := 8) rfl))) Via.refl e0 S_XML_1_1 (g := (mkF m 69 #[.val (.ref o0), .val (.int p1), .val (.int (1 : Int32))] [(.ref o0)])) rfl (hb hby d1_69)
                      refine Dn.by (U' := T97.setTop (mkF m 72 #[.val (.ref o0), .val (.int p1), .val (.int (1 : Int32))] [(.ref s_XML_1_1), (.ref o0)])) st97 ?_
                      by_cases c72_98 : o0 = s_XML_1_1
                      ·
                        refine Dn.by (U' := T97.setTop (mkF m 75 #[.val (.ref o0), .val (.int p1), .val (.int (1 : Int32))] [])) (fun _ k => Jvm.RoadKit.acmp (g := (mkF m 72 #[.val (.ref o0), .val (.int p1), .val (.int (1 : Int32))] [(.ref s_XML_1_1), (.ref o0)])) X97 hx rfl rfl rfl (pc0 := 72) (pc' := 75) (same := true) rfl (hb hby d1_72) rfl (decide_eq_true (congrArg Value.ref c72_98)) (by decide) (by decide) k) ?_
                        refine Dn.by (U' := T97.setTop (mkF m 76 #[.val (.ref o0), .val (.int p1), .val (.int (1 : Int32))] [(.int (1 : Int32))])) (fun _ k => XS.iloadN X97.here hx rfl (hb hby d1_75) rfl k) ?_
                        refine Dn.by (U' := T97.setTop (mkF m 79 #[.val (.ref o0), .val (.int p1), .val (.int (1 : Int32))] [])) (fun _ k => XS.ifNo X97.here hx rfl (hb hby d1_76) rfl (by decide) k) ?_
                        refine Dn.by (U' := T97.setTop (mkF m 80 #[.val (.ref o0), .val (.int p1), .val (.int (1 : Int32))] [(.int (1 : Int32))])) (fun _ k => XS.iconst X97.here hx rfl (hb hby d1_79)  k) ?_
                        refine Dn.by (U' := T97.setTop (mkF m 84 #[.val (.ref o0), .val (.int p1), .val (.int (1 : Int32))] [(.int (1 : Int32))])) (fun _ k => XS.goto X97.here hx rfl (pc0 := 80) (pc' := 84) rfl (hb hby d1_80) (by decide) (by decide) k) ?_
                        refine Dn.out X97 (v := (some (.int (1 : Int32)))) (fun h => by rw [Bd.returns] at h; cases h) (BodyLoose.notSynchronized Bd) (fun _ hr => retN X97 hx (t := .boolean) Bd.returns (by simp) (hb hby d1_84) hr) (by decide) (by decide) ?_
                        rw [e97]
                        exact ⟨by simp only [hor, if_neg c2_1, if_pos c8_52, if_neg c14_53, if_neg c20_56, if_neg c26_59, if_pos c32_80, if_neg c38_81, if_pos c45_90, if_neg c52_91, if_neg c59_94, if_pos c72_98], N0, rfl⟩
                      ·
                        refine Dn.by (U' := T97.setTop (mkF m 83 #[.val (.ref o0), .val (.int p1), .val (.int (1 : Int32))] [])) (fun _ k => Jvm.RoadKit.acmp (g := (mkF m 72 #[.val (.ref o0), .val (.int p1), .val (.int (1 : Int32))] [(.ref s_XML_1_1), (.ref o0)])) X97 hx rfl rfl rfl (pc0 := 72) (pc' := 83) (same := false) rfl (hb hby d1_72) rfl (decide_eq_false fun q => c72_98 (Value.ref.inj q)) (by decide) (by decide) k) ?_
                        refine Dn.by (U' := T97.setTop (mkF m 84 #[.val (.ref o0), .val (.int p1), .val (.int (1 : Int32))] [(.int (0 : Int32))])) (fun _ k => XS.iconst X97.here hx rfl (hb hby d1_83)  k) ?_
                        refine Dn.out X97 (v := (some (.int (0 : Int32)))) (fun h => by rw [Bd.returns] at h; cases h) (BodyLoose.notSynchronized Bd) (fun _ hr => retN X97 hx (t := .boolean) Bd.returns (by simp) (hb hby d1_84) hr) (by decide) (by decide) ?_
                        rw [e97]
                        exact ⟨by simp only [hor, if_neg c2_1, if_pos c8_52, if_neg c14_53, if_neg c20_56, if_neg c26_59, if_pos c32_80, if_neg c38_81, if_pos c45_90, if_neg c52_91, if_neg c59_94, if_neg c72_98], N0, rfl⟩
                ·
                  refine Dn.by (U' := s₁.setTop (mkF m 62 #[.val (.ref o0), .val (.int p1), .unset] [])) (fun _ k => XS.icmpYes X0.here hx rfl (pc0 := 45) (pc' := 62) rfl (hb hby d1_45) rfl (flt c45_90).2.2.2 (by decide) (by decide) k) ?_
                  refine Dn.by (U' := s₁.setTop (mkF m 63 #[.val (.ref o0), .val (.int p1), .unset] [(.int (1 : Int32))])) (fun _ k => XS.iconst X0.here hx rfl (hb hby d1_62)  k) ?_
                  refine Dn.by (U' := s₁.setTop (mkF m 67 #[.val (.ref o0), .val (.int p1), .unset] [(.int (1 : Int32))])) (fun _ k => XS.goto X0.here hx rfl (pc0 := 63) (pc' := 67) rfl (hb hby d1_63) (by decide) (by decide) k) ?_
                  refine Dn.by (U' := s₁.setTop (mkF m 68 #[.val (.ref o0), .val (.int p1), .val (.int (1 : Int32))] [])) (fun _ k => XS.istoreN X0.here hx rfl (hb hby d1_67) rfl (l' := #[.val (.ref o0), .val (.int p1), .val (.int (1 : Int32))]) rfl k) ?_
                  refine Dn.by (U' := s₁.setTop (mkF m 69 #[.val (.ref o0), .val (.int p1), .val (.int (1 : Int32))] [(.ref o0)])) (fun _ k => XS.aloadN X0.here hx rfl (hb hby d1_68) rfl rfl k) ?_
                  obtain ⟨T99, X99, e99, st99⟩ := getS2 X0 hx hZ (a0 := a0) hown (host := "") (Or.inl (hw _ (List.mem_of_getElem? (i := 8) rfl))) Via.refl e0 S_XML_1_1 (g := (mkF m 69 #[.val (.ref o0), .val (.int p1), .val (.int (1 : Int32))] [(.ref o0)])) rfl (hb hby d1_69)
                  refine Dn.by (U' := T99.setTop (mkF m 72 #[.val (.ref o0), .val (.int p1), .val (.int (1 : Int32))] [(.ref s_XML_1_1), (.ref o0)])) st99 ?_
                  by_cases c72_100 : o0 = s_XML_1_1
                  ·
                    refine Dn.by (U' := T99.setTop (mkF m 75 #[.val (.ref o0), .val (.int p1), .val (.int (1 : Int32))] [])) (fun _ k => Jvm.RoadKit.acmp (g := (mkF m 72 #[.val (.ref o0), .val (.int p1), .val (.int (1 : Int32))] [(.ref s_XML_1_1), (.ref o0)])) X99 hx rfl rfl rfl (pc0 := 72) (pc' := 75) (same := true) rfl (hb hby d1_72) rfl (decide_eq_true (congrArg Value.ref c72_100)) (by decide) (by decide) k) ?_
                    refine Dn.by (U' := T99.setTop (mkF m 76 #[.val (.ref o0), .val (.int p1), .val (.int (1 : Int32))] [(.int (1 : Int32))])) (fun _ k => XS.iloadN X99.here hx rfl (hb hby d1_75) rfl k) ?_
                    refine Dn.by (U' := T99.setTop (mkF m 79 #[.val (.ref o0), .val (.int p1), .val (.int (1 : Int32))] [])) (fun _ k => XS.ifNo X99.here hx rfl (hb hby d1_76) rfl (by decide) k) ?_
                    refine Dn.by (U' := T99.setTop (mkF m 80 #[.val (.ref o0), .val (.int p1), .val (.int (1 : Int32))] [(.int (1 : Int32))])) (fun _ k => XS.iconst X99.here hx rfl (hb hby d1_79)  k) ?_
                    refine Dn.by (U' := T99.setTop (mkF m 84 #[.val (.ref o0), .val (.int p1), .val (.int (1 : Int32))] [(.int (1 : Int32))])) (fun _ k => XS.goto X99.here hx rfl (pc0 := 80) (pc' := 84) rfl (hb hby d1_80) (by decide) (by decide) k) ?_
                    refine Dn.out X99 (v := (some (.int (1 : Int32)))) (fun h => by rw [Bd.returns] at h; cases h) (BodyLoose.notSynchronized Bd) (fun _ hr => retN X99 hx (t := .boolean) Bd.returns (by simp) (hb hby d1_84) hr) (by decide) (by decide) ?_
                    rw [e99]
                    exact ⟨by simp only [hor, if_neg c2_1, if_pos c8_52, if_neg c14_53, if_neg c20_56, if_neg c26_59, if_pos c32_80, if_neg c38_81, if_neg c45_90, if_pos c72_100], N0, rfl⟩
                  ·
                    refine Dn.by (U' := T99.setTop (mkF m 83 #[.val (.ref o0), .val (.int p1), .val (.int (1 : Int32))] [])) (fun _ k => Jvm.RoadKit.acmp (g := (mkF m 72 #[.val (.ref o0), .val (.int p1), .val (.int (1 : Int32))] [(.ref s_XML_1_1), (.ref o0)])) X99 hx rfl rfl rfl (pc0 := 72) (pc' := 83) (same := false) rfl (hb hby d1_72) rfl (decide_eq_false fun q => c72_100 (Value.ref.inj q)) (by decide) (by decide) k) ?_
                    refine Dn.by (U' := T99.setTop (mkF m 84 #[.val (.ref o0), .val (.int p1), .val (.int (1 : Int32))] [(.int (0 : Int32))])) (fun _ k => XS.iconst X99.here hx rfl (hb hby d1_83)  k) ?_
                    refine Dn.out X99 (v := (some (.int (0 : Int32)))) (fun h => by rw [Bd.returns] at h; cases h) (BodyLoose.notSynchronized Bd) (fun _ hr => retN X99 hx (t := .boolean) Bd.returns (by simp) (hb hby d1_84) hr) (by decide) (by decide) ?_
                    rw [e99]
                    exact ⟨by simp only [hor, if_neg c2_1, if_pos c8_52, if_neg c14_53, if_neg c20_56, if_neg c26_59, if_pos c32_80, if_neg c38_81, if_neg c45_90, if_neg c72_100], N0, rfl⟩
            ·
              refine Dn.by (U' := s₁.setTop (mkF m 62 #[.val (.ref o0), .val (.int p1), .unset] [])) (fun _ k => XS.icmpYes X0.here hx rfl (pc0 := 32) (pc' := 62) rfl (hb hby d1_32) rfl (flt c32_80).2.2.2 (by decide) (by decide) k) ?_
              refine Dn.by (U' := s₁.setTop (mkF m 63 #[.val (.ref o0), .val (.int p1), .unset] [(.int (1 : Int32))])) (fun _ k => XS.iconst X0.here hx rfl (hb hby d1_62)  k) ?_
              refine Dn.by (U' := s₁.setTop (mkF m 67 #[.val (.ref o0), .val (.int p1), .unset] [(.int (1 : Int32))])) (fun _ k => XS.goto X0.here hx rfl (pc0 := 63) (pc' := 67) rfl (hb hby d1_63) (by decide) (by decide) k) ?_
              refine Dn.by (U' := s₁.setTop (mkF m 68 #[.val (.ref o0), .val (.int p1), .val (.int (1 : Int32))] [])) (fun _ k => XS.istoreN X0.here hx rfl (hb hby d1_67) rfl (l' := #[.val (.ref o0), .val (.int p1), .val (.int (1 : Int32))]) rfl k) ?_
              refine Dn.by (U' := s₁.setTop (mkF m 69 #[.val (.ref o0), .val (.int p1), .val (.int (1 : Int32))] [(.ref o0)])) (fun _ k => XS.aloadN X0.here hx rfl (hb hby d1_68) rfl rfl k) ?_
              obtain ⟨T101, X101, e101, st101⟩ := getS2 X0 hx hZ (a0 := a0) hown (host := "") (Or.inl (hw _ (List.mem_of_getElem? (i := 8) rfl))) Via.refl e0 S_XML_1_1 (g := (mkF m 69 #[.val (.ref o0), .val (.int p1), .val (.int (1 : Int32))] [(.ref o0)])) rfl (hb hby d1_69)
              refine Dn.by (U' := T101.setTop (mkF m 72 #[.val (.ref o0), .val (.int p1), .val (.int (1 : Int32))] [(.ref s_XML_1_1), (.ref o0)])) st101 ?_
              by_cases c72_102 : o0 = s_XML_1_1
              ·
                refine Dn.by (U' := T101.setTop (mkF m 75 #[.val (.ref o0), .val (.int p1), .val (.int (1 : Int32))] [])) (fun _ k => Jvm.RoadKit.acmp (g := (mkF m 72 #[.val (.ref o0), .val (.int p1), .val (.int (1 : Int32))] [(.ref s_XML_1_1), (.ref o0)])) X101 hx rfl rfl rfl (pc0 := 72) (pc' := 75) (same := true) rfl (hb hby d1_72) rfl (decide_eq_true (congrArg Value.ref c72_102)) (by decide) (by decide) k) ?_
                refine Dn.by (U' := T101.setTop (mkF m 76 #[.val (.ref o0), .val (.int p1), .val (.int (1 : Int32))] [(.int (1 : Int32))])) (fun _ k => XS.iloadN X101.here hx rfl (hb hby d1_75) rfl k) ?_
                refine Dn.by (U' := T101.setTop (mkF m 79 #[.val (.ref o0), .val (.int p1), .val (.int (1 : Int32))] [])) (fun _ k => XS.ifNo X101.here hx rfl (hb hby d1_76) rfl (by decide) k) ?_
                refine Dn.by (U' := T101.setTop (mkF m 80 #[.val (.ref o0), .val (.int p1), .val (.int (1 : Int32))] [(.int (1 : Int32))])) (fun _ k => XS.iconst X101.here hx rfl (hb hby d1_79)  k) ?_
                refine Dn.by (U' := T101.setTop (mkF m 84 #[.val (.ref o0), .val (.int p1), .val (.int (1 : Int32))] [(.int (1 : Int32))])) (fun _ k => XS.goto X101.here hx rfl (pc0 := 80) (pc' := 84) rfl (hb hby d1_80) (by decide) (by decide) k) ?_
                refine Dn.out X101 (v := (some (.int (1 : Int32)))) (fun h => by rw [Bd.returns] at h; cases h) (BodyLoose.notSynchronized Bd) (fun _ hr => retN X101 hx (t := .boolean) Bd.returns (by simp) (hb hby d1_84) hr) (by decide) (by decide) ?_
                rw [e101]
                exact ⟨by simp only [hor, if_neg c2_1, if_pos c8_52, if_neg c14_53, if_neg c20_56, if_neg c26_59, if_neg c32_80, if_pos c72_102], N0, rfl⟩
              ·
                refine Dn.by (U' := T101.setTop (mkF m 83 #[.val (.ref o0), .val (.int p1), .val (.int (1 : Int32))] [])) (fun _ k => Jvm.RoadKit.acmp (g := (mkF m 72 #[.val (.ref o0), .val (.int p1), .val (.int (1 : Int32))] [(.ref s_XML_1_1), (.ref o0)])) X101 hx rfl rfl rfl (pc0 := 72) (pc' := 83) (same := false) rfl (hb hby d1_72) rfl (decide_eq_false fun q => c72_102 (Value.ref.inj q)) (by decide) (by decide) k) ?_
                refine Dn.by (U' := T101.setTop (mkF m 84 #[.val (.ref o0), .val (.int p1), .val (.int (1 : Int32))] [(.int (0 : Int32))])) (fun _ k => XS.iconst X101.here hx rfl (hb hby d1_83)  k) ?_
                refine Dn.out X101 (v := (some (.int (0 : Int32)))) (fun h => by rw [Bd.returns] at h; cases h) (BodyLoose.notSynchronized Bd) (fun _ hr => retN X101 hx (t := .boolean) Bd.returns (by simp) (hb hby d1_84) hr) (by decide) (by decide) ?_
                rw [e101]
                exact ⟨by simp only [hor, if_neg c2_1, if_pos c8_52, if_neg c14_53, if_neg c20_56, if_neg c26_59, if_neg c32_80, if_neg c72_102], N0, rfl⟩
    ·
      refine Dn.by (U' := s₁.setTop (mkF m 62 #[.val (.ref o0), .val (.int p1), .unset] [])) (fun _ k => XS.icmpYes X0.here hx rfl (pc0 := 8) (pc' := 62) rfl (hb hby d1_8) rfl (flt c8_52).2.2.2 (by decide) (by decide) k) ?_
      refine Dn.by (U' := s₁.setTop (mkF m 63 #[.val (.ref o0), .val (.int p1), .unset] [(.int (1 : Int32))])) (fun _ k => XS.iconst X0.here hx rfl (hb hby d1_62)  k) ?_
      refine Dn.by (U' := s₁.setTop (mkF m 67 #[.val (.ref o0), .val (.int p1), .unset] [(.int (1 : Int32))])) (fun _ k => XS.goto X0.here hx rfl (pc0 := 63) (pc' := 67) rfl (hb hby d1_63) (by decide) (by decide) k) ?_
      refine Dn.by (U' := s₁.setTop (mkF m 68 #[.val (.ref o0), .val (.int p1), .val (.int (1 : Int32))] [])) (fun _ k => XS.istoreN X0.here hx rfl (hb hby d1_67) rfl (l' := #[.val (.ref o0), .val (.int p1), .val (.int (1 : Int32))]) rfl k) ?_
      refine Dn.by (U' := s₁.setTop (mkF m 69 #[.val (.ref o0), .val (.int p1), .val (.int (1 : Int32))] [(.ref o0)])) (fun _ k => XS.aloadN X0.here hx rfl (hb hby d1_68) rfl rfl k) ?_
      obtain ⟨T103, X103, e103, st103⟩ := getS2 X0 hx hZ (a0 := a0) hown (host := "") (Or.inl (hw _ (List.mem_of_getElem? (i := 8) rfl))) Via.refl e0 S_XML_1_1 (g := (mkF m 69 #[.val (.ref o0), .val (.int p1), .val (.int (1 : Int32))] [(.ref o0)])) rfl (hb hby d1_69)
      refine Dn.by (U' := T103.setTop (mkF m 72 #[.val (.ref o0), .val (.int p1), .val (.int (1 : Int32))] [(.ref s_XML_1_1), (.ref o0)])) st103 ?_
      by_cases c72_104 : o0 = s_XML_1_1
      ·
        refine Dn.by (U' := T103.setTop (mkF m 75 #[.val (.ref o0), .val (.int p1), .val (.int (1 : Int32))] [])) (fun _ k => Jvm.RoadKit.acmp (g := (mkF m 72 #[.val (.ref o0), .val (.int p1), .val (.int (1 : Int32))] [(.ref s_XML_1_1), (.ref o0)])) X103 hx rfl rfl rfl (pc0 := 72) (pc' := 75) (same := true) rfl (hb hby d1_72) rfl (decide_eq_true (congrArg Value.ref c72_104)) (by decide) (by decide) k) ?_
        refine Dn.by (U' := T103.setTop (mkF m 76 #[.val (.ref o0), .val (.int p1), .val (.int (1 : Int32))] [(.int (1 : Int32))])) (fun _ k => XS.iloadN X103.here hx rfl (hb hby d1_75) rfl k) ?_
        refine Dn.by (U' := T103.setTop (mkF m 79 #[.val (.ref o0), .val (.int p1), .val (.int (1 : Int32))] [])) (fun _ k => XS.ifNo X103.here hx rfl (hb hby d1_76) rfl (by decide) k) ?_
        refine Dn.by (U' := T103.setTop (mkF m 80 #[.val (.ref o0), .val (.int p1), .val (.int (1 : Int32))] [(.int (1 : Int32))])) (fun _ k => XS.iconst X103.here hx rfl (hb hby d1_79)  k) ?_
        refine Dn.by (U' := T103.setTop (mkF m 84 #[.val (.ref o0), .val (.int p1), .val (.int (1 : Int32))] [(.int (1 : Int32))])) (fun _ k => XS.goto X103.here hx rfl (pc0 := 80) (pc' := 84) rfl (hb hby d1_80) (by decide) (by decide) k) ?_
        refine Dn.out X103 (v := (some (.int (1 : Int32)))) (fun h => by rw [Bd.returns] at h; cases h) (BodyLoose.notSynchronized Bd) (fun _ hr => retN X103 hx (t := .boolean) Bd.returns (by simp) (hb hby d1_84) hr) (by decide) (by decide) ?_
        rw [e103]
        exact ⟨by simp only [hor, if_neg c2_1, if_neg c8_52, if_pos c72_104], N0, rfl⟩
      ·
        refine Dn.by (U' := T103.setTop (mkF m 83 #[.val (.ref o0), .val (.int p1), .val (.int (1 : Int32))] [])) (fun _ k => Jvm.RoadKit.acmp (g := (mkF m 72 #[.val (.ref o0), .val (.int p1), .val (.int (1 : Int32))] [(.ref s_XML_1_1), (.ref o0)])) X103 hx rfl rfl rfl (pc0 := 72) (pc' := 83) (same := false) rfl (hb hby d1_72) rfl (decide_eq_false fun q => c72_104 (Value.ref.inj q)) (by decide) (by decide) k) ?_
        refine Dn.by (U' := T103.setTop (mkF m 84 #[.val (.ref o0), .val (.int p1), .val (.int (1 : Int32))] [(.int (0 : Int32))])) (fun _ k => XS.iconst X103.here hx rfl (hb hby d1_83)  k) ?_
        refine Dn.out X103 (v := (some (.int (0 : Int32)))) (fun h => by rw [Bd.returns] at h; cases h) (BodyLoose.notSynchronized Bd) (fun _ hr => retN X103 hx (t := .boolean) Bd.returns (by simp) (hb hby d1_84) hr) (by decide) (by decide) ?_
        rw [e103]
        exact ⟨by simp only [hor, if_neg c2_1, if_neg c8_52, if_neg c72_104], N0, rfl⟩
def refF (p0 : Int32) (p1 : Int32) : Int32 := (if p0 = (1 : Int32) then (if p1 < (1 : Int32) then (if p1 < (127 : Int32) then (0 : Int32) else (if (159 : Int32) < p1 then (0 : Int32) else (if p1 = (133 : Int32) then (0 : Int32) else (1 : Int32)))) else (if (31 : Int32) < p1 then (if p1 < (127 : Int32) then (0 : Int32) else (if (159 : Int32) < p1 then (0 : Int32) else (if p1 = (133 : Int32) then (0 : Int32) else (1 : Int32)))) else (if p1 = (9 : Int32) then (0 : Int32) else (if p1 = (10 : Int32) then (0 : Int32) else (if p1 = (13 : Int32) then (0 : Int32) else (1 : Int32)))))) else (0 : Int32))
abbrev Rm2 : Room := { frames := 0, cells := 0, slots := 0, locals := 0 }
theorem ef_2 (m : MethodId) (p0 : Int32) (p1 : Int32) : entryFrame m #[(.int p0), (.int p1)] 2 = mkF m 0 #[.val (.int p0), .val (.int p1)] [] := by first | (simp [entryFrame, mkF, argsToLocals, Value.category]; done) | rfl
def Q2 (Z : State) (p0 : Int32) (p1 : Int32) (h0 : Heap) (n0 : Nat) (v : Option Value) (h : Heap) (L : List Loc) : Prop := v = some (.int (refF p0 p1)) ∧ Fr n0 L ∧ h = h0
set_option maxRecDepth 65536 in
set_option maxHeartbeats 40000000 in
theorem rm2 (l : Launch) (Z : State) (a0 : Array Value) (hw : ∀ d ∈ tables_1, d.before a0 Z = true) (ws : List Jvm.Cond) (p0 : Int32) (p1 : Int32) (h0 : Heap) (n0 : Nat) (Z0 : n0 ≤ h0.size)  :
    MetFree l (⟨"com/example/osprey/osprey/transform/RepertoireHoldsOnlyAsReferencePinLaw", "ref", "(II)Z"⟩ : MethodName) (head1 (Jvm.Cond.code (⟨"com/example/osprey/osprey/transform/RepertoireHoldsOnlyAsReferencePinLaw", "ref", "(II)Z"⟩ : MethodName) method_3_code 2 (some .boolean) :: ws) Rm2) (fun a U => a = #[(.int p0), (.int p1)] ∧ Z.Warmed39 U.vm ∧ U.heap = h0) (fun _ _ _ _ _ => True) (fun _ U o U' => ∃ v L, o = .returned v ∧ Q2 Z p0 p1 h0 n0 v U'.heap L ∧ FrameEnd U o U' L Rm2.cells Rm2.slots) := by
  refine MetFree.of_bodySF (plainFor_of_name pn1) hisR ?_
  intro p e s m args below meth c s₁ Bd hml0 hP hK
  obtain ⟨rfl, hZ, hh⟩ := hP
  have hx := Bd.exec
  have hby := Bd.bytes
  have hml : c.maxLocals = 2 := hml0
  have hown : s.vm.findClass "com/example/osprey/osprey/transform/RepertoireHoldsOnlyAsReferencePinLaw" = some m.cls := findClass_of_methodNamed Bd.named
  have hnm := (name_of_methodNamed Bd.named Bd.method).1
  have X0 : Stand p l e Rm2 s m #[(.int p0), (.int p1)] below meth c s₁ [] 0 0 := Stand.of_body Bd
  have e0 : s₁.heap = h0 := by rw [← hh, Bd.state]; rfl
  have N0 := Fr.nil n0
  show Dn p e below s Rm2.cells Rm2.slots (Q2 Z p0 p1 h0 n0) (s₁.setTop (entryFrame m #[(.int p0), (.int p1)] 2))
  rw [ef_2]
  refine Dn.by (U' := s₁.setTop (mkF m 1 #[.val (.int p0), .val (.int p1)] [(.int p0)])) (fun _ k => XS.iloadN X0.here hx rfl (hb hby d2_0) rfl k) ?_
  refine Dn.by (U' := s₁.setTop (mkF m 2 #[.val (.int p0), .val (.int p1)] [(.int (1 : Int32)), (.int p0)])) (fun _ k => XS.iconst X0.here hx rfl (hb hby d2_1)  k) ?_
  by_cases c2_1 : p0 = (1 : Int32)
  ·
    refine Dn.by (U' := s₁.setTop (mkF m 7 #[.val (.int p0), .val (.int p1)] [])) (fun _ k => XS.icmpYes X0.here hx rfl (pc0 := 2) (pc' := 7) rfl (hb hby d2_2) rfl (teq c2_1).1 (by decide) (by decide) k) ?_
    refine Dn.by (U' := s₁.setTop (mkF m 8 #[.val (.int p0), .val (.int p1)] [(.int p1)])) (fun _ k => XS.iloadN X0.here hx rfl (hb hby d2_7) rfl k) ?_
    refine Dn.by (U' := s₁.setTop (mkF m 9 #[.val (.int p0), .val (.int p1)] [(.int (1 : Int32)), (.int p1)])) (fun _ k => XS.iconst X0.here hx rfl (hb hby d2_8)  k) ?_
    by_cases c9_2 : p1 < (1 : Int32)
    ·
      refine Dn.by (U' := s₁.setTop (mkF m 42 #[.val (.int p0), .val (.int p1)] [])) (fun _ k => XS.icmpYes X0.here hx rfl (pc0 := 9) (pc' := 42) rfl (hb hby d2_9) rfl (tlt c9_2).1 (by decide) (by decide) k) ?_
      refine Dn.by (U' := s₁.setTop (mkF m 43 #[.val (.int p0), .val (.int p1)] [(.int p1)])) (fun _ k => XS.iloadN X0.here hx rfl (hb hby d2_42) rfl k) ?_
      refine Dn.by (U' := s₁.setTop (mkF m 45 #[.val (.int p0), .val (.int p1)] [(.int (127 : Int32)), (.int p1)])) (fun _ k => XS.bipush X0.here hx rfl (hb hby d2_43)  k) ?_
      by_cases c45_3 : p1 < (127 : Int32)
      ·
        refine Dn.by (U' := s₁.setTop (mkF m 68 #[.val (.int p0), .val (.int p1)] [])) (fun _ k => XS.icmpYes X0.here hx rfl (pc0 := 45) (pc' := 68) rfl (hb hby d2_45) rfl (tlt c45_3).1 (by decide) (by decide) k) ?_
        refine Dn.by (U' := s₁.setTop (mkF m 69 #[.val (.int p0), .val (.int p1)] [(.int (0 : Int32))])) (fun _ k => XS.iconst X0.here hx rfl (hb hby d2_68)  k) ?_
        refine Dn.out X0 (v := (some (.int (0 : Int32)))) (fun h => by rw [Bd.returns] at h; cases h) (BodyLoose.notSynchronized Bd) (fun _ hr => retN X0 hx (t := .boolean) Bd.returns (by simp) (hb hby d2_69) hr) (by decide) (by decide) ?_
        rw [e0]
        exact ⟨by simp only [refF, if_pos c2_1, if_pos c9_2, if_pos c45_3], N0, rfl⟩
      ·
        refine Dn.by (U' := s₁.setTop (mkF m 48 #[.val (.int p0), .val (.int p1)] [])) (fun _ k => XS.icmpNo X0.here hx rfl (hb hby d2_45) rfl (flt c45_3).1 k) ?_
        refine Dn.by (U' := s₁.setTop (mkF m 49 #[.val (.int p0), .val (.int p1)] [(.int p1)])) (fun _ k => XS.iloadN X0.here hx rfl (hb hby d2_48) rfl k) ?_
        refine Dn.by (U' := s₁.setTop (mkF m 52 #[.val (.int p0), .val (.int p1)] [(.int (159 : Int32)), (.int p1)])) (fun _ k => XS.sipush X0.here hx rfl (hb hby d2_49)  k) ?_
        by_cases c52_4 : (159 : Int32) < p1
        ·
          refine Dn.by (U' := s₁.setTop (mkF m 68 #[.val (.int p0), .val (.int p1)] [])) (fun _ k => XS.icmpYes X0.here hx rfl (pc0 := 52) (pc' := 68) rfl (hb hby d2_52) rfl (tlt c52_4).2.2.1 (by decide) (by decide) k) ?_
          refine Dn.by (U' := s₁.setTop (mkF m 69 #[.val (.int p0), .val (.int p1)] [(.int (0 : Int32))])) (fun _ k => XS.iconst X0.here hx rfl (hb hby d2_68)  k) ?_
          refine Dn.out X0 (v := (some (.int (0 : Int32)))) (fun h => by rw [Bd.returns] at h; cases h) (BodyLoose.notSynchronized Bd) (fun _ hr => retN X0 hx (t := .boolean) Bd.returns (by simp) (hb hby d2_69) hr) (by decide) (by decide) ?_
          rw [e0]
          exact ⟨by simp only [refF, if_pos c2_1, if_pos c9_2, if_neg c45_3, if_pos c52_4], N0, rfl⟩
        ·
          refine Dn.by (U' := s₁.setTop (mkF m 55 #[.val (.int p0), .val (.int p1)] [])) (fun _ k => XS.icmpNo X0.here hx rfl (hb hby d2_52) rfl (flt c52_4).2.2.1 k) ?_
          refine Dn.by (U' := s₁.setTop (mkF m 56 #[.val (.int p0), .val (.int p1)] [(.int p1)])) (fun _ k => XS.iloadN X0.here hx rfl (hb hby d2_55) rfl k) ?_
          refine Dn.by (U' := s₁.setTop (mkF m 59 #[.val (.int p0), .val (.int p1)] [(.int (133 : Int32)), (.int p1)])) (fun _ k => XS.sipush X0.here hx rfl (hb hby d2_56)  k) ?_
          by_cases c59_5 : p1 = (133 : Int32)
          ·
            refine Dn.by (U' := s₁.setTop (mkF m 66 #[.val (.int p0), .val (.int p1)] [])) (fun _ k => XS.icmpYes X0.here hx rfl (pc0 := 59) (pc' := 66) rfl (hb hby d2_59) rfl (teq c59_5).1 (by decide) (by decide) k) ?_
            refine Dn.by (U' := s₁.setTop (mkF m 67 #[.val (.int p0), .val (.int p1)] [(.int (0 : Int32))])) (fun _ k => XS.iconst X0.here hx rfl (hb hby d2_66)  k) ?_
            refine Dn.out X0 (v := (some (.int (0 : Int32)))) (fun h => by rw [Bd.returns] at h; cases h) (BodyLoose.notSynchronized Bd) (fun _ hr => retN X0 hx (t := .boolean) Bd.returns (by simp) (hb hby d2_67) hr) (by decide) (by decide) ?_
            rw [e0]
            exact ⟨by simp only [refF, if_pos c2_1, if_pos c9_2, if_neg c45_3, if_neg c52_4, if_pos c59_5], N0, rfl⟩
          ·
            refine Dn.by (U' := s₁.setTop (mkF m 62 #[.val (.int p0), .val (.int p1)] [])) (fun _ k => XS.icmpNo X0.here hx rfl (hb hby d2_59) rfl (feq c59_5).1 k) ?_
            refine Dn.by (U' := s₁.setTop (mkF m 63 #[.val (.int p0), .val (.int p1)] [(.int (1 : Int32))])) (fun _ k => XS.iconst X0.here hx rfl (hb hby d2_62)  k) ?_
            refine Dn.by (U' := s₁.setTop (mkF m 67 #[.val (.int p0), .val (.int p1)] [(.int (1 : Int32))])) (fun _ k => XS.goto X0.here hx rfl (pc0 := 63) (pc' := 67) rfl (hb hby d2_63) (by decide) (by decide) k) ?_
            refine Dn.out X0 (v := (some (.int (1 : Int32)))) (fun h => by rw [Bd.returns] at h; cases h) (BodyLoose.notSynchronized Bd) (fun _ hr => retN X0 hx (t := .boolean) Bd.returns (by simp) (hb hby d2_67) hr) (by decide) (by decide) ?_
            rw [e0]
            exact ⟨by simp only [refF, if_pos c2_1, if_pos c9_2, if_neg c45_3, if_neg c52_4, if_neg c59_5], N0, rfl⟩
    ·
      refine Dn.by (U' := s₁.setTop (mkF m 12 #[.val (.int p0), .val (.int p1)] [])) (fun _ k => XS.icmpNo X0.here hx rfl (hb hby d2_9) rfl (flt c9_2).1 k) ?_
      refine Dn.by (U' := s₁.setTop (mkF m 13 #[.val (.int p0), .val (.int p1)] [(.int p1)])) (fun _ k => XS.iloadN X0.here hx rfl (hb hby d2_12) rfl k) ?_
      refine Dn.by (U' := s₁.setTop (mkF m 15 #[.val (.int p0), .val (.int p1)] [(.int (31 : Int32)), (.int p1)])) (fun _ k => XS.bipush X0.here hx rfl (hb hby d2_13)  k) ?_
      by_cases c15_6 : (31 : Int32) < p1
      ·
        refine Dn.by (U' := s₁.setTop (mkF m 42 #[.val (.int p0), .val (.int p1)] [])) (fun _ k => XS.icmpYes X0.here hx rfl (pc0 := 15) (pc' := 42) rfl (hb hby d2_15) rfl (tlt c15_6).2.2.1 (by decide) (by decide) k) ?_
        refine Dn.by (U' := s₁.setTop (mkF m 43 #[.val (.int p0), .val (.int p1)] [(.int p1)])) (fun _ k => XS.iloadN X0.here hx rfl (hb hby d2_42) rfl k) ?_
        refine Dn.by (U' := s₁.setTop (mkF m 45 #[.val (.int p0), .val (.int p1)] [(.int (127 : Int32)), (.int p1)])) (fun _ k => XS.bipush X0.here hx rfl (hb hby d2_43)  k) ?_
        by_cases c45_7 : p1 < (127 : Int32)
        ·
          refine Dn.by (U' := s₁.setTop (mkF m 68 #[.val (.int p0), .val (.int p1)] [])) (fun _ k => XS.icmpYes X0.here hx rfl (pc0 := 45) (pc' := 68) rfl (hb hby d2_45) rfl (tlt c45_7).1 (by decide) (by decide) k) ?_
          refine Dn.by (U' := s₁.setTop (mkF m 69 #[.val (.int p0), .val (.int p1)] [(.int (0 : Int32))])) (fun _ k => XS.iconst X0.here hx rfl (hb hby d2_68)  k) ?_
          refine Dn.out X0 (v := (some (.int (0 : Int32)))) (fun h => by rw [Bd.returns] at h; cases h) (BodyLoose.notSynchronized Bd) (fun _ hr => retN X0 hx (t := .boolean) Bd.returns (by simp) (hb hby d2_69) hr) (by decide) (by decide) ?_
          rw [e0]
          exact ⟨by simp only [refF, if_pos c2_1, if_neg c9_2, if_pos c15_6, if_pos c45_7], N0, rfl⟩
        ·
          refine Dn.by (U' := s₁.setTop (mkF m 48 #[.val (.int p0), .val (.int p1)] [])) (fun _ k => XS.icmpNo X0.here hx rfl (hb hby d2_45) rfl (flt c45_7).1 k) ?_
          refine Dn.by (U' := s₁.setTop (mkF m 49 #[.val (.int p0), .val (.int p1)] [(.int p1)])) (fun _ k => XS.iloadN X0.here hx rfl (hb hby d2_48) rfl k) ?_
          refine Dn.by (U' := s₁.setTop (mkF m 52 #[.val (.int p0), .val (.int p1)] [(.int (159 : Int32)), (.int p1)])) (fun _ k => XS.sipush X0.here hx rfl (hb hby d2_49)  k) ?_
          by_cases c52_8 : (159 : Int32) < p1
          ·
            refine Dn.by (U' := s₁.setTop (mkF m 68 #[.val (.int p0), .val (.int p1)] [])) (fun _ k => XS.icmpYes X0.here hx rfl (pc0 := 52) (pc' := 68) rfl (hb hby d2_52) rfl (tlt c52_8).2.2.1 (by decide) (by decide) k) ?_
            refine Dn.by (U' := s₁.setTop (mkF m 69 #[.val (.int p0), .val (.int p1)] [(.int (0 : Int32))])) (fun _ k => XS.iconst X0.here hx rfl (hb hby d2_68)  k) ?_
            refine Dn.out X0 (v := (some (.int (0 : Int32)))) (fun h => by rw [Bd.returns] at h; cases h) (BodyLoose.notSynchronized Bd) (fun _ hr => retN X0 hx (t := .boolean) Bd.returns (by simp) (hb hby d2_69) hr) (by decide) (by decide) ?_
            rw [e0]
            exact ⟨by simp only [refF, if_pos c2_1, if_neg c9_2, if_pos c15_6, if_neg c45_7, if_pos c52_8], N0, rfl⟩
          ·
            refine Dn.by (U' := s₁.setTop (mkF m 55 #[.val (.int p0), .val (.int p1)] [])) (fun _ k => XS.icmpNo X0.here hx rfl (hb hby d2_52) rfl (flt c52_8).2.2.1 k) ?_
            refine Dn.by (U' := s₁.setTop (mkF m 56 #[.val (.int p0), .val (.int p1)] [(.int p1)])) (fun _ k => XS.iloadN X0.here hx rfl (hb hby d2_55) rfl k) ?_
            refine Dn.by (U' := s₁.setTop (mkF m 59 #[.val (.int p0), .val (.int p1)] [(.int (133 : Int32)), (.int p1)])) (fun _ k => XS.sipush X0.here hx rfl (hb hby d2_56)  k) ?_
            by_cases c59_9 : p1 = (133 : Int32)
            ·
              refine Dn.by (U' := s₁.setTop (mkF m 66 #[.val (.int p0), .val (.int p1)] [])) (fun _ k => XS.icmpYes X0.here hx rfl (pc0 := 59) (pc' := 66) rfl (hb hby d2_59) rfl (teq c59_9).1 (by decide) (by decide) k) ?_
              refine Dn.by (U' := s₁.setTop (mkF m 67 #[.val (.int p0), .val (.int p1)] [(.int (0 : Int32))])) (fun _ k => XS.iconst X0.here hx rfl (hb hby d2_66)  k) ?_
              refine Dn.out X0 (v := (some (.int (0 : Int32)))) (fun h => by rw [Bd.returns] at h; cases h) (BodyLoose.notSynchronized Bd) (fun _ hr => retN X0 hx (t := .boolean) Bd.returns (by simp) (hb hby d2_67) hr) (by decide) (by decide) ?_
              rw [e0]
              exact ⟨by simp only [refF, if_pos c2_1, if_neg c9_2, if_pos c15_6, if_neg c45_7, if_neg c52_8, if_pos c59_9], N0, rfl⟩
            ·
              refine Dn.by (U' := s₁.setTop (mkF m 62 #[.val (.int p0), .val (.int p1)] [])) (fun _ k => XS.icmpNo X0.here hx rfl (hb hby d2_59) rfl (feq c59_9).1 k) ?_
              refine Dn.by (U' := s₁.setTop (mkF m 63 #[.val (.int p0), .val (.int p1)] [(.int (1 : Int32))])) (fun _ k => XS.iconst X0.here hx rfl (hb hby d2_62)  k) ?_
              refine Dn.by (U' := s₁.setTop (mkF m 67 #[.val (.int p0), .val (.int p1)] [(.int (1 : Int32))])) (fun _ k => XS.goto X0.here hx rfl (pc0 := 63) (pc' := 67) rfl (hb hby d2_63) (by decide) (by decide) k) ?_
              refine Dn.out X0 (v := (some (.int (1 : Int32)))) (fun h => by rw [Bd.returns] at h; cases h) (BodyLoose.notSynchronized Bd) (fun _ hr => retN X0 hx (t := .boolean) Bd.returns (by simp) (hb hby d2_67) hr) (by decide) (by decide) ?_
              rw [e0]
              exact ⟨by simp only [refF, if_pos c2_1, if_neg c9_2, if_pos c15_6, if_neg c45_7, if_neg c52_8, if_neg c59_9], N0, rfl⟩
      ·
        refine Dn.by (U' := s₁.setTop (mkF m 18 #[.val (.int p0), .val (.int p1)] [])) (fun _ k => XS.icmpNo X0.here hx rfl (hb hby d2_15) rfl (flt c15_6).2.2.1 k) ?_
        refine Dn.by (U' := s₁.setTop (mkF m 19 #[.val (.int p0), .val (.int p1)] [(.int p1)])) (fun _ k => XS.iloadN X0.here hx rfl (hb hby d2_18) rfl k) ?_
        refine Dn.by (U' := s₁.setTop (mkF m 21 #[.val (.int p0), .val (.int p1)] [(.int (9 : Int32)), (.int p1)])) (fun _ k => XS.bipush X0.here hx rfl (hb hby d2_19)  k) ?_
        by_cases c21_10 : p1 = (9 : Int32)
        ·
          refine Dn.by (U' := s₁.setTop (mkF m 40 #[.val (.int p0), .val (.int p1)] [])) (fun _ k => XS.icmpYes X0.here hx rfl (pc0 := 21) (pc' := 40) rfl (hb hby d2_21) rfl (teq c21_10).1 (by decide) (by decide) k) ?_
          refine Dn.by (U' := s₁.setTop (mkF m 41 #[.val (.int p0), .val (.int p1)] [(.int (0 : Int32))])) (fun _ k => XS.iconst X0.here hx rfl (hb hby d2_40)  k) ?_
          refine Dn.out X0 (v := (some (.int (0 : Int32)))) (fun h => by rw [Bd.returns] at h; cases h) (BodyLoose.notSynchronized Bd) (fun _ hr => retN X0 hx (t := .boolean) Bd.returns (by simp) (hb hby d2_41) hr) (by decide) (by decide) ?_
          rw [e0]
          exact ⟨by simp only [refF, if_pos c2_1, if_neg c9_2, if_neg c15_6, if_pos c21_10], N0, rfl⟩
        ·
          refine Dn.by (U' := s₁.setTop (mkF m 24 #[.val (.int p0), .val (.int p1)] [])) (fun _ k => XS.icmpNo X0.here hx rfl (hb hby d2_21) rfl (feq c21_10).1 k) ?_
          refine Dn.by (U' := s₁.setTop (mkF m 25 #[.val (.int p0), .val (.int p1)] [(.int p1)])) (fun _ k => XS.iloadN X0.here hx rfl (hb hby d2_24) rfl k) ?_
          refine Dn.by (U' := s₁.setTop (mkF m 27 #[.val (.int p0), .val (.int p1)] [(.int (10 : Int32)), (.int p1)])) (fun _ k => XS.bipush X0.here hx rfl (hb hby d2_25)  k) ?_
          by_cases c27_11 : p1 = (10 : Int32)
          ·
            refine Dn.by (U' := s₁.setTop (mkF m 40 #[.val (.int p0), .val (.int p1)] [])) (fun _ k => XS.icmpYes X0.here hx rfl (pc0 := 27) (pc' := 40) rfl (hb hby d2_27) rfl (teq c27_11).1 (by decide) (by decide) k) ?_
            refine Dn.by (U' := s₁.setTop (mkF m 41 #[.val (.int p0), .val (.int p1)] [(.int (0 : Int32))])) (fun _ k => XS.iconst X0.here hx rfl (hb hby d2_40)  k) ?_
            refine Dn.out X0 (v := (some (.int (0 : Int32)))) (fun h => by rw [Bd.returns] at h; cases h) (BodyLoose.notSynchronized Bd) (fun _ hr => retN X0 hx (t := .boolean) Bd.returns (by simp) (hb hby d2_41) hr) (by decide) (by decide) ?_
            rw [e0]
            exact ⟨by simp only [refF, if_pos c2_1, if_neg c9_2, if_neg c15_6, if_neg c21_10, if_pos c27_11], N0, rfl⟩
          ·
            refine Dn.by (U' := s₁.setTop (mkF m 30 #[.val (.int p0), .val (.int p1)] [])) (fun _ k => XS.icmpNo X0.here hx rfl (hb hby d2_27) rfl (feq c27_11).1 k) ?_
            refine Dn.by (U' := s₁.setTop (mkF m 31 #[.val (.int p0), .val (.int p1)] [(.int p1)])) (fun _ k => XS.iloadN X0.here hx rfl (hb hby d2_30) rfl k) ?_
            refine Dn.by (U' := s₁.setTop (mkF m 33 #[.val (.int p0), .val (.int p1)] [(.int (13 : Int32)), (.int p1)])) (fun _ k => XS.bipush X0.here hx rfl (hb hby d2_31)  k) ?_
            by_cases c33_12 : p1 = (13 : Int32)
            ·
              refine Dn.by (U' := s₁.setTop (mkF m 40 #[.val (.int p0), .val (.int p1)] [])) (fun _ k => XS.icmpYes X0.here hx rfl (pc0 := 33) (pc' := 40) rfl (hb hby d2_33) rfl (teq c33_12).1 (by decide) (by decide) k) ?_
              refine Dn.by (U' := s₁.setTop (mkF m 41 #[.val (.int p0), .val (.int p1)] [(.int (0 : Int32))])) (fun _ k => XS.iconst X0.here hx rfl (hb hby d2_40)  k) ?_
              refine Dn.out X0 (v := (some (.int (0 : Int32)))) (fun h => by rw [Bd.returns] at h; cases h) (BodyLoose.notSynchronized Bd) (fun _ hr => retN X0 hx (t := .boolean) Bd.returns (by simp) (hb hby d2_41) hr) (by decide) (by decide) ?_
              rw [e0]
              exact ⟨by simp only [refF, if_pos c2_1, if_neg c9_2, if_neg c15_6, if_neg c21_10, if_neg c27_11, if_pos c33_12], N0, rfl⟩
            ·
              refine Dn.by (U' := s₁.setTop (mkF m 36 #[.val (.int p0), .val (.int p1)] [])) (fun _ k => XS.icmpNo X0.here hx rfl (hb hby d2_33) rfl (feq c33_12).1 k) ?_
              refine Dn.by (U' := s₁.setTop (mkF m 37 #[.val (.int p0), .val (.int p1)] [(.int (1 : Int32))])) (fun _ k => XS.iconst X0.here hx rfl (hb hby d2_36)  k) ?_
              refine Dn.by (U' := s₁.setTop (mkF m 41 #[.val (.int p0), .val (.int p1)] [(.int (1 : Int32))])) (fun _ k => XS.goto X0.here hx rfl (pc0 := 37) (pc' := 41) rfl (hb hby d2_37) (by decide) (by decide) k) ?_
              refine Dn.out X0 (v := (some (.int (1 : Int32)))) (fun h => by rw [Bd.returns] at h; cases h) (BodyLoose.notSynchronized Bd) (fun _ hr => retN X0 hx (t := .boolean) Bd.returns (by simp) (hb hby d2_41) hr) (by decide) (by decide) ?_
              rw [e0]
              exact ⟨by simp only [refF, if_pos c2_1, if_neg c9_2, if_neg c15_6, if_neg c21_10, if_neg c27_11, if_neg c33_12], N0, rfl⟩
  ·
    refine Dn.by (U' := s₁.setTop (mkF m 5 #[.val (.int p0), .val (.int p1)] [])) (fun _ k => XS.icmpNo X0.here hx rfl (hb hby d2_2) rfl (feq c2_1).1 k) ?_
    refine Dn.by (U' := s₁.setTop (mkF m 6 #[.val (.int p0), .val (.int p1)] [(.int (0 : Int32))])) (fun _ k => XS.iconst X0.here hx rfl (hb hby d2_5)  k) ?_
    refine Dn.out X0 (v := (some (.int (0 : Int32)))) (fun h => by rw [Bd.returns] at h; cases h) (BodyLoose.notSynchronized Bd) (fun _ hr => retN X0 hx (t := .boolean) Bd.returns (by simp) (hb hby d2_6) hr) (by decide) (by decide) ?_
    rw [e0]
    exact ⟨by simp only [refF, if_neg c2_1], N0, rfl⟩
def own_in (p : Int32) : Prop := (1 ≤ p.toInt ∧ p.toInt ≤ 31 ∧ p.toInt ≠ 9 ∧ p.toInt ≠ 10 ∧ p.toInt ≠ 13) ∨ (127 ≤ p.toInt ∧ p.toInt ≤ 159 ∧ p.toInt ≠ 133)
theorem own_hor0 (o s : Addr) (p : Int32) (h : ¬ o = s) : hor o p s = 0 := by
  unfold hor
  simp only [if_neg h]
  repeat' split
  all_goals rfl
theorem own_lits : (1 : Int32).toInt = 1 ∧ (8 : Int32).toInt = 8 ∧ (9 : Int32).toInt = 9 ∧ (10 : Int32).toInt = 10 ∧ (11 : Int32).toInt = 11 ∧ (12 : Int32).toInt = 12 ∧ (13 : Int32).toInt = 13 ∧ (14 : Int32).toInt = 14 ∧ (31 : Int32).toInt = 31 ∧ (127 : Int32).toInt = 127 ∧ (132 : Int32).toInt = 132 ∧ (133 : Int32).toInt = 133 ∧ (134 : Int32).toInt = 134 ∧ (159 : Int32).toInt = 159 := by decide
set_option maxHeartbeats 4000000 in
theorem own_hor1 (o : Addr) (p : Int32) : hor o p o = refF 1 p := by
  obtain ⟨l1, l8, l9, l10, l11, l12, l13, l14, l31, l127, l132, l133, l134, l159⟩ := own_lits
  unfold hor refF
  simp only [Int32.lt_iff_toInt_lt, ← Int32.toInt_inj, if_true, if_false]
  repeat' split
  all_goals first | rfl | (exfalso; omega)
theorem own_ref0 (r p : Int32) (h : ¬ r = 1) : refF r p = 0 := by
  unfold refF
  simp only [if_neg h]
theorem ef_0 (m : MethodId) (p0 : Int32) (p1 : Int32) (p2 : Int32) : entryFrame m #[(.int p0), (.int p1), (.int p2)] maxLocals = mkF m 0 #[.val (.int p0), .val (.int p1), .val (.int p2), .unset, .unset, .unset, .unset, .unset] [] := by first | (simp [entryFrame, mkF, argsToLocals, Value.category, maxLocals]; done) | rfl
def Q0 (Z : State) (p0 : Int32) (p1 : Int32) (p2 : Int32) (s10 : Addr) (s11 : Addr) (sh : Addr) (h0 : Heap) (n0 : Nat) (v : Option Value) (h : Heap) (L : List Loc) : Prop := v = some (.int 1) ∧ Fr n0 L
set_option maxRecDepth 65536 in
set_option maxHeartbeats 40000000 in
theorem rm0 (l : Launch) (Z : State) (a0 : Array Value) (hw : ∀ d ∈ tables_1, d.before a0 Z = true) (ws : List Jvm.Cond) (p0 : Int32) (p1 : Int32) (p2 : Int32) (s10 : Addr) (s11 : Addr) (sh : Addr) (h0 : Heap) (n0 : Nat) (Z0 : n0 ≤ h0.size) (S_s10 : Sta Z h0 "com/example/osprey/osprey/transform/Repertoire" "XML_1_0" "Lcom/example/osprey/osprey/transform/Repertoire;" (.ref s10)) (E_s10 : Exa Z h0 s10 "com/example/osprey/osprey/transform/Repertoire") (S_s11 : Sta Z h0 "com/example/osprey/osprey/transform/Repertoire" "XML_1_1" "Lcom/example/osprey/osprey/transform/Repertoire;" (.ref s11)) (E_s11 : Exa Z h0 s11 "com/example/osprey/osprey/transform/Repertoire") (S_sh : Sta Z h0 "com/example/osprey/osprey/transform/Repertoire" "HTML" "Lcom/example/osprey/osprey/transform/Repertoire;" (.ref sh)) (E_sh : Exa Z h0 sh "com/example/osprey/osprey/transform/Repertoire") (ne_s10 : ¬ s10 = s11) (ne_sh : ¬ sh = s11) :
    MetFree l x (head1 (Jvm.Cond.code x code maxLocals ret :: ws) room_1) (fun a U => a = #[(.int p0), (.int p1), (.int p2)] ∧ Z.Warmed39 U.vm ∧ U.heap = h0) (fun _ _ _ _ _ => True) (fun _ U o U' => ∃ v L, o = .returned v ∧ Q0 Z p0 p1 p2 s10 s11 sh h0 n0 v U'.heap L ∧ FrameEnd U o U' L 0 0) := by
  refine MetFree.of_bodySF (plainFor_of_name pn1) hisR ?_
  intro p e s m args below meth c s₁ Bd hml0 hP hK
  obtain ⟨rfl, hZ, hh⟩ := hP
  have hx := Bd.exec
  have hby := Bd.bytes
  have hml : c.maxLocals = 8 := hml0
  have hown : s.vm.findClass "com/example/osprey/osprey/transform/RepertoireHoldsOnlyAsReferencePinLaw" = some m.cls := findClass_of_methodNamed Bd.named
  have hnm := (name_of_methodNamed Bd.named Bd.method).1
  have X0 : Stand p l e room_1 s m #[(.int p0), (.int p1), (.int p2)] below meth c s₁ [] 0 0 := Stand.of_body Bd
  have e0 : s₁.heap = h0 := by rw [← hh, Bd.state]; rfl
  have N0 := Fr.nil n0
  show Dn p e below s 0 0 (Q0 Z p0 p1 p2 s10 s11 sh h0 n0) (s₁.setTop (entryFrame m #[(.int p0), (.int p1), (.int p2)] maxLocals))
  rw [ef_0]
  refine Dn.by (U' := s₁.setTop (mkF m 1 #[.val (.int p0), .val (.int p1), .val (.int p2), .unset, .unset, .unset, .unset, .unset] [(.int p0)])) (fun _ k => XS.iloadN X0.here hx rfl (hb hby at_0) rfl k) ?_
  refine Dn.by (U' := s₁.setTop (mkF m 2 #[.val (.int p0), .val (.int p1), .val (.int p2), .unset, .unset, .unset, .unset, .unset] [(.int (3 : Int32)), (.int p0)])) (fun _ k => XS.iconst X0.here hx rfl (hb hby at_1)  k) ?_
  refine Dn.by (U' := s₁.setTop (mkF m 3 #[.val (.int p0), .val (.int p1), .val (.int p2), .unset, .unset, .unset, .unset, .unset] [(.int (p0 &&& (3 : Int32)))])) (fun _ k => XS.iand X0.here hx rfl (hb hby at_2) rfl k) ?_
  refine Dn.by (U' := s₁.setTop (mkF m 4 #[.val (.int p0), .val (.int p1), .val (.int p2), .unset, .unset, .unset, .unset, .unset] [(.int (3 : Int32)), (.int (p0 &&& (3 : Int32)))])) (fun _ k => XS.iconst X0.here hx rfl (hb hby at_3)  k) ?_
  refine Dn.by (U' := s₁.setTop (mkF m 5 #[.val (.int p0), .val (.int p1), .val (.int p2), .unset, .unset, .unset, .unset, .unset] [(.int ((p0 &&& (3 : Int32)) % (3 : Int32)))])) (fun _ k => iremM X0 hx rfl (hb hby at_4) rfl (by decide) k) ?_
  generalize h_r : ((p0 &&& (3 : Int32)) % (3 : Int32)) = r
  refine Dn.by (U' := s₁.setTop (mkF m 6 #[.val (.int p0), .val (.int p1), .val (.int p2), .val (.int r), .unset, .unset, .unset, .unset] [])) (fun _ k => XS.istoreN X0.here hx rfl (hb hby at_5) rfl (l' := #[.val (.int p0), .val (.int p1), .val (.int p2), .val (.int r), .unset, .unset, .unset, .unset]) rfl k) ?_
  refine Dn.by (U' := s₁.setTop (mkF m 7 #[.val (.int p0), .val (.int p1), .val (.int p2), .val (.int r), .unset, .unset, .unset, .unset] [(.int r)])) (fun _ k => XS.iloadN X0.here hx rfl (hb hby at_6) rfl k) ?_
  by_cases c7_1 : r = (0 : Int32)
  ·
    refine Dn.by (U' := s₁.setTop (mkF m 10 #[.val (.int p0), .val (.int p1), .val (.int p2), .val (.int r), .unset, .unset, .unset, .unset] [])) (fun _ k => XS.ifNo X0.here hx rfl (hb hby at_7) rfl ((if0 _ _).trans (teq c7_1).2) k) ?_
    obtain ⟨T2, X2, e2, st2⟩ := getS2 X0 hx hZ (a0 := a0) hown (host := "") (Or.inl (hw _ (List.mem_of_getElem? (i := 0) rfl))) Via.refl e0 S_s10 (g := (mkF m 10 #[.val (.int p0), .val (.int p1), .val (.int p2), .val (.int r), .unset, .unset, .unset, .unset] [])) rfl (hb hby at_10)
    refine Dn.by (U' := T2.setTop (mkF m 13 #[.val (.int p0), .val (.int p1), .val (.int p2), .val (.int r), .unset, .unset, .unset, .unset] [(.ref s10)])) st2 ?_
    refine Dn.by (U' := T2.setTop (mkF m 30 #[.val (.int p0), .val (.int p1), .val (.int p2), .val (.int r), .unset, .unset, .unset, .unset] [(.ref s10)])) (fun _ k => XS.goto X2.here hx rfl (pc0 := 13) (pc' := 30) rfl (hb hby at_13) (by decide) (by decide) k) ?_
    refine Dn.by (U' := T2.setTop (mkF m 32 #[.val (.int p0), .val (.int p1), .val (.int p2), .val (.int r), .val (.ref s10), .unset, .unset, .unset] [])) (fun _ k => XS.astore X2.here hx rfl (hb hby at_30) rfl rfl (l' := #[.val (.int p0), .val (.int p1), .val (.int p2), .val (.int r), .val (.ref s10), .unset, .unset, .unset]) rfl k) ?_
    refine Dn.by (U' := T2.setTop (mkF m 33 #[.val (.int p0), .val (.int p1), .val (.int p2), .val (.int r), .val (.ref s10), .unset, .unset, .unset] [(.int p2)])) (fun _ k => XS.iloadN X2.here hx rfl (hb hby at_32) rfl k) ?_
    refine Dn.by (U' := T2.setTop (mkF m 36 #[.val (.int p0), .val (.int p1), .val (.int p2), .val (.int r), .val (.ref s10), .unset, .unset, .unset] [(.int (255 : Int32)), (.int p2)])) (fun _ k => XS.sipush X2.here hx rfl (hb hby at_33)  k) ?_
    refine Dn.by (U' := T2.setTop (mkF m 37 #[.val (.int p0), .val (.int p1), .val (.int p2), .val (.int r), .val (.ref s10), .unset, .unset, .unset] [(.int (p2 &&& (255 : Int32)))])) (fun _ k => XS.iand X2.here hx rfl (hb hby at_36) rfl k) ?_
    refine Dn.by (U' := T2.setTop (mkF m 39 #[.val (.int p0), .val (.int p1), .val (.int p2), .val (.int r), .val (.ref s10), .val (.int (p2 &&& (255 : Int32))), .unset, .unset] [])) (fun _ k => XS.istore X2.here hx rfl (hb hby at_37) rfl (l' := #[.val (.int p0), .val (.int p1), .val (.int p2), .val (.int r), .val (.ref s10), .val (.int (p2 &&& (255 : Int32))), .unset, .unset]) rfl k) ?_
    refine Dn.by (U' := T2.setTop (mkF m 41 #[.val (.int p0), .val (.int p1), .val (.int p2), .val (.int r), .val (.ref s10), .val (.int (p2 &&& (255 : Int32))), .unset, .unset] [(.ref s10)])) (fun _ k => XS.aload X2.here hx rfl (hb hby at_39) rfl rfl k) ?_
    refine Dn.by (U' := T2.setTop (mkF m 42 #[.val (.int p0), .val (.int p1), .val (.int p2), .val (.int r), .val (.ref s10), .val (.int (p2 &&& (255 : Int32))), .unset, .unset] [(.int p1), (.ref s10)])) (fun _ k => XS.iloadN X2.here hx rfl (hb hby at_41) rfl k) ?_
    obtain ⟨cq3, kq3, qa3, qb3, qc3⟩ := isOf hZ e2 E_s10
    obtain ⟨_, _, ⟨T3, L3, k3, n3⟩, -, X3, ⟨Lc3, hQ3, l3, y3, z3⟩, st3⟩ := X2.virtualBack hx (y := (⟨"com/example/osprey/osprey/transform/Repertoire", "holdsOnlyAsReference", "(I)Z"⟩ : MethodName)) (z := (⟨"com/example/osprey/osprey/transform/Repertoire", "holdsOnlyAsReference", "(I)Z"⟩ : MethodName)) hown (mvT hZ (hw _ (List.mem_of_getElem? (i := 3) rfl))) (mvT hZ (hw _ (List.mem_of_getElem? (i := 4) rfl))) (notFace_of_selects (args := #[]) (mvT hZ (hw _ (List.mem_of_getElem? (i := 6) rfl)))) (mvT hZ (hw _ (List.mem_of_getElem? (i := 6) rfl))) (mvT hZ (hw _ (List.mem_of_getElem? (i := 5) rfl))) (by decide) (backOf (W := 0) (rm1 l Z a0 hw [] s10 p1 s11 h0 n0 Z0 S_s11) hZ (hw _ (List.mem_of_getElem? (i := 7) rfl)) (hw _ (List.mem_of_getElem? (i := 1) rfl)) (by decide) (by decide)) qa3 qc3 (g := (mkF m 42 #[.val (.int p0), .val (.int p1), .val (.int p2), .val (.int r), .val (.ref s10), .val (.int (p2 &&& (255 : Int32))), .unset, .unset] [(.int p1), (.ref s10)])) rfl (by rw [hml]; rfl) (Steps.refl _) (argsL := [(.int p1)]) (rest := []) (lenOf pd0 rfl) rfl (by show 2 * 0 + _ ≤ _; exact Nat.le_of_eq rfl) (hb hby at_42) (fun _ _ => ⟨rfl, e2, (by decide : 0 + 0 ≤ _), (by decide : 0 + 0 ≤ _)⟩)
    dsimp only [Pt.U, Pt.locs, Pt.cells, Pt.slots] at X3 l3 y3 z3 st3 hQ3
    subst l3 y3 z3
    obtain ⟨rfl, N3q, e3⟩ := hQ3
    have N3 := Fr.app N0 N3q
    refine Dn.by (U' := T3.setTop (mkF m 45 #[.val (.int p0), .val (.int p1), .val (.int p2), .val (.int r), .val (.ref s10), .val (.int (p2 &&& (255 : Int32))), .unset, .unset] [(.int (hor s10 p1 s11))])) (fun _ k => st3.trans k) ?_
    refine Dn.by (U' := T3.setTop (mkF m 46 #[.val (.int p0), .val (.int p1), .val (.int p2), .val (.int r), .val (.ref s10), .val (.int (p2 &&& (255 : Int32))), .unset, .unset] [(.int r), (.int (hor s10 p1 s11))])) (fun _ k => XS.iloadN X3.here hx rfl (hb hby at_45) rfl k) ?_
    refine Dn.by (U' := T3.setTop (mkF m 47 #[.val (.int p0), .val (.int p1), .val (.int p2), .val (.int r), .val (.ref s10), .val (.int (p2 &&& (255 : Int32))), .unset, .unset] [(.int p1), (.int r), (.int (hor s10 p1 s11))])) (fun _ k => XS.iloadN X3.here hx rfl (hb hby at_46) rfl k) ?_
    obtain ⟨_, _, ⟨T4, L4, k4, n4⟩, -, X4, ⟨Lc4, hQ4, l4, y4, z4⟩, st4⟩ := Jvm.LawKit.callS X3 hx (y := (⟨"com/example/osprey/osprey/transform/RepertoireHoldsOnlyAsReferencePinLaw", "ref", "(II)Z"⟩ : MethodName)) hown (mvT hZ (hw _ (List.mem_of_getElem? (i := 10) rfl))) (mvT hZ (hw _ (List.mem_of_getElem? (i := 11) rfl))) (mvT hZ (hw _ (List.mem_of_getElem? (i := 12) rfl))) (mvT hZ (hw _ (List.mem_of_getElem? (i := 13) rfl))) (by decide) (backOf (W := 1) (rm2 l Z a0 hw [] r p1  h0 n0 Z0 ) hZ (hw _ (List.mem_of_getElem? (i := 13) rfl)) (hw _ (List.mem_of_getElem? (i := 12) rfl)) (by decide) (by decide)) (g := (mkF m 47 #[.val (.int p0), .val (.int p1), .val (.int p2), .val (.int r), .val (.ref s10), .val (.int (p2 &&& (255 : Int32))), .unset, .unset] [(.int p1), (.int r), (.int (hor s10 p1 s11))])) rfl (by rw [hml]; rfl) (argsL := [(.int r), (.int p1)]) (rest := [(.int (hor s10 p1 s11))]) (lenOf pd1 rfl) rfl (by show 2 * 0 + _ ≤ _; exact Nat.le_of_eq rfl) (hb hby at_47) (fun _ _ => ⟨rfl, e3, (by decide : 0 + 0 ≤ _), (by decide : 0 + 0 ≤ _)⟩)
    dsimp only [Pt.U, Pt.locs, Pt.cells, Pt.slots] at X4 l4 y4 z4 st4 hQ4
    subst l4 y4 z4
    obtain ⟨rfl, N4q, e4⟩ := hQ4
    have N4 := Fr.app N3 N4q
    refine Dn.by (U' := T4.setTop (mkF m 50 #[.val (.int p0), .val (.int p1), .val (.int p2), .val (.int r), .val (.ref s10), .val (.int (p2 &&& (255 : Int32))), .unset, .unset] [(.int (refF r p1)), (.int (hor s10 p1 s11))])) st4 ?_
    refine Dn.by (U' := T4.setTop (mkF m 53 #[.val (.int p0), .val (.int p1), .val (.int p2), .val (.int r), .val (.ref s10), .val (.int (p2 &&& (255 : Int32))), .unset, .unset] [])) (fun _ k => XS.icmpNo X4.here hx rfl (hb hby at_50) rfl (teq ((own_hor0 _ _ _ ne_s10).trans (own_ref0 _ _ (fun q => absurd (q.symm.trans c7_1) (by decide))).symm)).2 k) ?_
    refine Dn.by (U' := T4.setTop (mkF m 54 #[.val (.int p0), .val (.int p1), .val (.int p2), .val (.int r), .val (.ref s10), .val (.int (p2 &&& (255 : Int32))), .unset, .unset] [(.int (1 : Int32))])) (fun _ k => XS.iconst X4.here hx rfl (hb hby at_53)  k) ?_
    refine Dn.by (U' := T4.setTop (mkF m 58 #[.val (.int p0), .val (.int p1), .val (.int p2), .val (.int r), .val (.ref s10), .val (.int (p2 &&& (255 : Int32))), .unset, .unset] [(.int (1 : Int32))])) (fun _ k => XS.goto X4.here hx rfl (pc0 := 54) (pc' := 58) rfl (hb hby at_54) (by decide) (by decide) k) ?_
    refine Dn.by (U' := T4.setTop (mkF m 60 #[.val (.int p0), .val (.int p1), .val (.int p2), .val (.int r), .val (.ref s10), .val (.int (p2 &&& (255 : Int32))), .val (.int (1 : Int32)), .unset] [])) (fun _ k => XS.istore X4.here hx rfl (hb hby at_58) rfl (l' := #[.val (.int p0), .val (.int p1), .val (.int p2), .val (.int r), .val (.ref s10), .val (.int (p2 &&& (255 : Int32))), .val (.int (1 : Int32)), .unset]) rfl k) ?_
    refine Dn.by (U' := T4.setTop (mkF m 62 #[.val (.int p0), .val (.int p1), .val (.int p2), .val (.int r), .val (.ref s10), .val (.int (p2 &&& (255 : Int32))), .val (.int (1 : Int32)), .unset] [(.ref s10)])) (fun _ k => XS.aload X4.here hx rfl (hb hby at_60) rfl rfl k) ?_
    refine Dn.by (U' := T4.setTop (mkF m 64 #[.val (.int p0), .val (.int p1), .val (.int p2), .val (.int r), .val (.ref s10), .val (.int (p2 &&& (255 : Int32))), .val (.int (1 : Int32)), .unset] [(.int (p2 &&& (255 : Int32))), (.ref s10)])) (fun _ k => XS.iload X4.here hx rfl (hb hby at_62) rfl k) ?_
    obtain ⟨cq5, kq5, qa5, qb5, qc5⟩ := isOf hZ e4 E_s10
    obtain ⟨_, _, ⟨T5, L5, k5, n5⟩, -, X5, ⟨Lc5, hQ5, l5, y5, z5⟩, st5⟩ := X4.virtualBack hx (y := (⟨"com/example/osprey/osprey/transform/Repertoire", "holdsOnlyAsReference", "(I)Z"⟩ : MethodName)) (z := (⟨"com/example/osprey/osprey/transform/Repertoire", "holdsOnlyAsReference", "(I)Z"⟩ : MethodName)) hown (mvT hZ (hw _ (List.mem_of_getElem? (i := 3) rfl))) (mvT hZ (hw _ (List.mem_of_getElem? (i := 4) rfl))) (notFace_of_selects (args := #[]) (mvT hZ (hw _ (List.mem_of_getElem? (i := 6) rfl)))) (mvT hZ (hw _ (List.mem_of_getElem? (i := 6) rfl))) (mvT hZ (hw _ (List.mem_of_getElem? (i := 5) rfl))) (by decide) (backOf (W := 0) (rm1 l Z a0 hw [] s10 (p2 &&& (255 : Int32)) s11 h0 n0 Z0 S_s11) hZ (hw _ (List.mem_of_getElem? (i := 7) rfl)) (hw _ (List.mem_of_getElem? (i := 1) rfl)) (by decide) (by decide)) qa5 qc5 (g := (mkF m 64 #[.val (.int p0), .val (.int p1), .val (.int p2), .val (.int r), .val (.ref s10), .val (.int (p2 &&& (255 : Int32))), .val (.int (1 : Int32)), .unset] [(.int (p2 &&& (255 : Int32))), (.ref s10)])) rfl (by rw [hml]; rfl) (Steps.refl _) (argsL := [(.int (p2 &&& (255 : Int32)))]) (rest := []) (lenOf pd0 rfl) rfl (by show 2 * 0 + _ ≤ _; exact Nat.le_of_eq rfl) (hb hby at_64) (fun _ _ => ⟨rfl, e4, (by decide : 0 + 0 ≤ _), (by decide : 0 + 0 ≤ _)⟩)
    dsimp only [Pt.U, Pt.locs, Pt.cells, Pt.slots] at X5 l5 y5 z5 st5 hQ5
    subst l5 y5 z5
    obtain ⟨rfl, N5q, e5⟩ := hQ5
    have N5 := Fr.app N4 N5q
    refine Dn.by (U' := T5.setTop (mkF m 67 #[.val (.int p0), .val (.int p1), .val (.int p2), .val (.int r), .val (.ref s10), .val (.int (p2 &&& (255 : Int32))), .val (.int (1 : Int32)), .unset] [(.int (hor s10 (p2 &&& (255 : Int32)) s11))])) (fun _ k => st5.trans k) ?_
    refine Dn.by (U' := T5.setTop (mkF m 68 #[.val (.int p0), .val (.int p1), .val (.int p2), .val (.int r), .val (.ref s10), .val (.int (p2 &&& (255 : Int32))), .val (.int (1 : Int32)), .unset] [(.int r), (.int (hor s10 (p2 &&& (255 : Int32)) s11))])) (fun _ k => XS.iloadN X5.here hx rfl (hb hby at_67) rfl k) ?_
    refine Dn.by (U' := T5.setTop (mkF m 70 #[.val (.int p0), .val (.int p1), .val (.int p2), .val (.int r), .val (.ref s10), .val (.int (p2 &&& (255 : Int32))), .val (.int (1 : Int32)), .unset] [(.int (p2 &&& (255 : Int32))), (.int r), (.int (hor s10 (p2 &&& (255 : Int32)) s11))])) (fun _ k => XS.iload X5.here hx rfl (hb hby at_68) rfl k) ?_
    obtain ⟨_, _, ⟨T6, L6, k6, n6⟩, -, X6, ⟨Lc6, hQ6, l6, y6, z6⟩, st6⟩ := Jvm.LawKit.callS X5 hx (y := (⟨"com/example/osprey/osprey/transform/RepertoireHoldsOnlyAsReferencePinLaw", "ref", "(II)Z"⟩ : MethodName)) hown (mvT hZ (hw _ (List.mem_of_getElem? (i := 10) rfl))) (mvT hZ (hw _ (List.mem_of_getElem? (i := 11) rfl))) (mvT hZ (hw _ (List.mem_of_getElem? (i := 12) rfl))) (mvT hZ (hw _ (List.mem_of_getElem? (i := 13) rfl))) (by decide) (backOf (W := 1) (rm2 l Z a0 hw [] r (p2 &&& (255 : Int32))  h0 n0 Z0 ) hZ (hw _ (List.mem_of_getElem? (i := 13) rfl)) (hw _ (List.mem_of_getElem? (i := 12) rfl)) (by decide) (by decide)) (g := (mkF m 70 #[.val (.int p0), .val (.int p1), .val (.int p2), .val (.int r), .val (.ref s10), .val (.int (p2 &&& (255 : Int32))), .val (.int (1 : Int32)), .unset] [(.int (p2 &&& (255 : Int32))), (.int r), (.int (hor s10 (p2 &&& (255 : Int32)) s11))])) rfl (by rw [hml]; rfl) (argsL := [(.int r), (.int (p2 &&& (255 : Int32)))]) (rest := [(.int (hor s10 (p2 &&& (255 : Int32)) s11))]) (lenOf pd1 rfl) rfl (by show 2 * 0 + _ ≤ _; exact Nat.le_of_eq rfl) (hb hby at_70) (fun _ _ => ⟨rfl, e5, (by decide : 0 + 0 ≤ _), (by decide : 0 + 0 ≤ _)⟩)
    dsimp only [Pt.U, Pt.locs, Pt.cells, Pt.slots] at X6 l6 y6 z6 st6 hQ6
    subst l6 y6 z6
    obtain ⟨rfl, N6q, e6⟩ := hQ6
    have N6 := Fr.app N5 N6q
    refine Dn.by (U' := T6.setTop (mkF m 73 #[.val (.int p0), .val (.int p1), .val (.int p2), .val (.int r), .val (.ref s10), .val (.int (p2 &&& (255 : Int32))), .val (.int (1 : Int32)), .unset] [(.int (refF r (p2 &&& (255 : Int32)))), (.int (hor s10 (p2 &&& (255 : Int32)) s11))])) st6 ?_
    refine Dn.by (U' := T6.setTop (mkF m 76 #[.val (.int p0), .val (.int p1), .val (.int p2), .val (.int r), .val (.ref s10), .val (.int (p2 &&& (255 : Int32))), .val (.int (1 : Int32)), .unset] [])) (fun _ k => XS.icmpNo X6.here hx rfl (hb hby at_73) rfl (teq ((own_hor0 _ _ _ ne_s10).trans (own_ref0 _ _ (fun q => absurd (q.symm.trans c7_1) (by decide))).symm)).2 k) ?_
    refine Dn.by (U' := T6.setTop (mkF m 77 #[.val (.int p0), .val (.int p1), .val (.int p2), .val (.int r), .val (.ref s10), .val (.int (p2 &&& (255 : Int32))), .val (.int (1 : Int32)), .unset] [(.int (1 : Int32))])) (fun _ k => XS.iconst X6.here hx rfl (hb hby at_76)  k) ?_
    refine Dn.by (U' := T6.setTop (mkF m 81 #[.val (.int p0), .val (.int p1), .val (.int p2), .val (.int r), .val (.ref s10), .val (.int (p2 &&& (255 : Int32))), .val (.int (1 : Int32)), .unset] [(.int (1 : Int32))])) (fun _ k => XS.goto X6.here hx rfl (pc0 := 77) (pc' := 81) rfl (hb hby at_77) (by decide) (by decide) k) ?_
    refine Dn.by (U' := T6.setTop (mkF m 83 #[.val (.int p0), .val (.int p1), .val (.int p2), .val (.int r), .val (.ref s10), .val (.int (p2 &&& (255 : Int32))), .val (.int (1 : Int32)), .val (.int (1 : Int32))] [])) (fun _ k => XS.istore X6.here hx rfl (hb hby at_81) rfl (l' := #[.val (.int p0), .val (.int p1), .val (.int p2), .val (.int r), .val (.ref s10), .val (.int (p2 &&& (255 : Int32))), .val (.int (1 : Int32)), .val (.int (1 : Int32))]) rfl k) ?_
    refine Dn.by (U' := T6.setTop (mkF m 85 #[.val (.int p0), .val (.int p1), .val (.int p2), .val (.int r), .val (.ref s10), .val (.int (p2 &&& (255 : Int32))), .val (.int (1 : Int32)), .val (.int (1 : Int32))] [(.int (1 : Int32))])) (fun _ k => XS.iload X6.here hx rfl (hb hby at_83) rfl k) ?_
    refine Dn.by (U' := T6.setTop (mkF m 88 #[.val (.int p0), .val (.int p1), .val (.int p2), .val (.int r), .val (.ref s10), .val (.int (p2 &&& (255 : Int32))), .val (.int (1 : Int32)), .val (.int (1 : Int32))] [])) (fun _ k => XS.ifNo X6.here hx rfl (hb hby at_85) rfl (by decide) k) ?_
    refine Dn.by (U' := T6.setTop (mkF m 90 #[.val (.int p0), .val (.int p1), .val (.int p2), .val (.int r), .val (.ref s10), .val (.int (p2 &&& (255 : Int32))), .val (.int (1 : Int32)), .val (.int (1 : Int32))] [(.int (1 : Int32))])) (fun _ k => XS.iload X6.here hx rfl (hb hby at_88) rfl k) ?_
    refine Dn.by (U' := T6.setTop (mkF m 93 #[.val (.int p0), .val (.int p1), .val (.int p2), .val (.int r), .val (.ref s10), .val (.int (p2 &&& (255 : Int32))), .val (.int (1 : Int32)), .val (.int (1 : Int32))] [])) (fun _ k => XS.ifNo X6.here hx rfl (hb hby at_90) rfl (by decide) k) ?_
    refine Dn.by (U' := T6.setTop (mkF m 94 #[.val (.int p0), .val (.int p1), .val (.int p2), .val (.int r), .val (.ref s10), .val (.int (p2 &&& (255 : Int32))), .val (.int (1 : Int32)), .val (.int (1 : Int32))] [(.int (1 : Int32))])) (fun _ k => XS.iconst X6.here hx rfl (hb hby at_93)  k) ?_
    refine Dn.by (U' := T6.setTop (mkF m 98 #[.val (.int p0), .val (.int p1), .val (.int p2), .val (.int r), .val (.ref s10), .val (.int (p2 &&& (255 : Int32))), .val (.int (1 : Int32)), .val (.int (1 : Int32))] [(.int (1 : Int32))])) (fun _ k => XS.goto X6.here hx rfl (pc0 := 94) (pc' := 98) rfl (hb hby at_94) (by decide) (by decide) k) ?_
    refine Dn.out X6 (v := (some (.int (1 : Int32)))) (fun h => by rw [Bd.returns] at h; cases h) (BodyLoose.notSynchronized Bd) (fun _ hr => retN X6 hx (t := .boolean) Bd.returns (by simp) (hb hby at_98) hr) (by decide) (by decide) ?_
    rw [e6]
    exact ⟨rfl, N6⟩
  ·
    refine Dn.by (U' := s₁.setTop (mkF m 16 #[.val (.int p0), .val (.int p1), .val (.int p2), .val (.int r), .unset, .unset, .unset, .unset] [])) (fun _ k => XS.ifYes X0.here hx rfl (pc0 := 7) (pc' := 16) rfl (hb hby at_7) rfl ((if0 _ _).trans (feq c7_1).2) (by decide) (by decide) k) ?_
    refine Dn.by (U' := s₁.setTop (mkF m 17 #[.val (.int p0), .val (.int p1), .val (.int p2), .val (.int r), .unset, .unset, .unset, .unset] [(.int r)])) (fun _ k => XS.iloadN X0.here hx rfl (hb hby at_16) rfl k) ?_
    refine Dn.by (U' := s₁.setTop (mkF m 18 #[.val (.int p0), .val (.int p1), .val (.int p2), .val (.int r), .unset, .unset, .unset, .unset] [(.int (1 : Int32)), (.int r)])) (fun _ k => XS.iconst X0.here hx rfl (hb hby at_17)  k) ?_
    by_cases c18_7 : r = (1 : Int32)
    ·
      refine Dn.by (U' := s₁.setTop (mkF m 21 #[.val (.int p0), .val (.int p1), .val (.int p2), .val (.int r), .unset, .unset, .unset, .unset] [])) (fun _ k => XS.icmpNo X0.here hx rfl (hb hby at_18) rfl (teq c18_7).2 k) ?_
      obtain ⟨T8, X8, e8, st8⟩ := getS2 X0 hx hZ (a0 := a0) hown (host := "") (Or.inl (hw _ (List.mem_of_getElem? (i := 14) rfl))) Via.refl e0 S_s11 (g := (mkF m 21 #[.val (.int p0), .val (.int p1), .val (.int p2), .val (.int r), .unset, .unset, .unset, .unset] [])) rfl (hb hby at_21)
      refine Dn.by (U' := T8.setTop (mkF m 24 #[.val (.int p0), .val (.int p1), .val (.int p2), .val (.int r), .unset, .unset, .unset, .unset] [(.ref s11)])) st8 ?_
      refine Dn.by (U' := T8.setTop (mkF m 30 #[.val (.int p0), .val (.int p1), .val (.int p2), .val (.int r), .unset, .unset, .unset, .unset] [(.ref s11)])) (fun _ k => XS.goto X8.here hx rfl (pc0 := 24) (pc' := 30) rfl (hb hby at_24) (by decide) (by decide) k) ?_
      refine Dn.by (U' := T8.setTop (mkF m 32 #[.val (.int p0), .val (.int p1), .val (.int p2), .val (.int r), .val (.ref s11), .unset, .unset, .unset] [])) (fun _ k => XS.astore X8.here hx rfl (hb hby at_30) rfl rfl (l' := #[.val (.int p0), .val (.int p1), .val (.int p2), .val (.int r), .val (.ref s11), .unset, .unset, .unset]) rfl k) ?_
      refine Dn.by (U' := T8.setTop (mkF m 33 #[.val (.int p0), .val (.int p1), .val (.int p2), .val (.int r), .val (.ref s11), .unset, .unset, .unset] [(.int p2)])) (fun _ k => XS.iloadN X8.here hx rfl (hb hby at_32) rfl k) ?_
      refine Dn.by (U' := T8.setTop (mkF m 36 #[.val (.int p0), .val (.int p1), .val (.int p2), .val (.int r), .val (.ref s11), .unset, .unset, .unset] [(.int (255 : Int32)), (.int p2)])) (fun _ k => XS.sipush X8.here hx rfl (hb hby at_33)  k) ?_
      refine Dn.by (U' := T8.setTop (mkF m 37 #[.val (.int p0), .val (.int p1), .val (.int p2), .val (.int r), .val (.ref s11), .unset, .unset, .unset] [(.int (p2 &&& (255 : Int32)))])) (fun _ k => XS.iand X8.here hx rfl (hb hby at_36) rfl k) ?_
      refine Dn.by (U' := T8.setTop (mkF m 39 #[.val (.int p0), .val (.int p1), .val (.int p2), .val (.int r), .val (.ref s11), .val (.int (p2 &&& (255 : Int32))), .unset, .unset] [])) (fun _ k => XS.istore X8.here hx rfl (hb hby at_37) rfl (l' := #[.val (.int p0), .val (.int p1), .val (.int p2), .val (.int r), .val (.ref s11), .val (.int (p2 &&& (255 : Int32))), .unset, .unset]) rfl k) ?_
      refine Dn.by (U' := T8.setTop (mkF m 41 #[.val (.int p0), .val (.int p1), .val (.int p2), .val (.int r), .val (.ref s11), .val (.int (p2 &&& (255 : Int32))), .unset, .unset] [(.ref s11)])) (fun _ k => XS.aload X8.here hx rfl (hb hby at_39) rfl rfl k) ?_
      refine Dn.by (U' := T8.setTop (mkF m 42 #[.val (.int p0), .val (.int p1), .val (.int p2), .val (.int r), .val (.ref s11), .val (.int (p2 &&& (255 : Int32))), .unset, .unset] [(.int p1), (.ref s11)])) (fun _ k => XS.iloadN X8.here hx rfl (hb hby at_41) rfl k) ?_
      obtain ⟨cq9, kq9, qa9, qb9, qc9⟩ := isOf hZ e8 E_s11
      obtain ⟨_, _, ⟨T9, L9, k9, n9⟩, -, X9, ⟨Lc9, hQ9, l9, y9, z9⟩, st9⟩ := X8.virtualBack hx (y := (⟨"com/example/osprey/osprey/transform/Repertoire", "holdsOnlyAsReference", "(I)Z"⟩ : MethodName)) (z := (⟨"com/example/osprey/osprey/transform/Repertoire", "holdsOnlyAsReference", "(I)Z"⟩ : MethodName)) hown (mvT hZ (hw _ (List.mem_of_getElem? (i := 3) rfl))) (mvT hZ (hw _ (List.mem_of_getElem? (i := 4) rfl))) (notFace_of_selects (args := #[]) (mvT hZ (hw _ (List.mem_of_getElem? (i := 6) rfl)))) (mvT hZ (hw _ (List.mem_of_getElem? (i := 6) rfl))) (mvT hZ (hw _ (List.mem_of_getElem? (i := 5) rfl))) (by decide) (backOf (W := 0) (rm1 l Z a0 hw [] s11 p1 s11 h0 n0 Z0 S_s11) hZ (hw _ (List.mem_of_getElem? (i := 7) rfl)) (hw _ (List.mem_of_getElem? (i := 1) rfl)) (by decide) (by decide)) qa9 qc9 (g := (mkF m 42 #[.val (.int p0), .val (.int p1), .val (.int p2), .val (.int r), .val (.ref s11), .val (.int (p2 &&& (255 : Int32))), .unset, .unset] [(.int p1), (.ref s11)])) rfl (by rw [hml]; rfl) (Steps.refl _) (argsL := [(.int p1)]) (rest := []) (lenOf pd0 rfl) rfl (by show 2 * 0 + _ ≤ _; exact Nat.le_of_eq rfl) (hb hby at_42) (fun _ _ => ⟨rfl, e8, (by decide : 0 + 0 ≤ _), (by decide : 0 + 0 ≤ _)⟩)
      dsimp only [Pt.U, Pt.locs, Pt.cells, Pt.slots] at X9 l9 y9 z9 st9 hQ9
      subst l9 y9 z9
      obtain ⟨rfl, N9q, e9⟩ := hQ9
      have N9 := Fr.app N0 N9q
      refine Dn.by (U' := T9.setTop (mkF m 45 #[.val (.int p0), .val (.int p1), .val (.int p2), .val (.int r), .val (.ref s11), .val (.int (p2 &&& (255 : Int32))), .unset, .unset] [(.int (hor s11 p1 s11))])) (fun _ k => st9.trans k) ?_
      refine Dn.by (U' := T9.setTop (mkF m 46 #[.val (.int p0), .val (.int p1), .val (.int p2), .val (.int r), .val (.ref s11), .val (.int (p2 &&& (255 : Int32))), .unset, .unset] [(.int r), (.int (hor s11 p1 s11))])) (fun _ k => XS.iloadN X9.here hx rfl (hb hby at_45) rfl k) ?_
      refine Dn.by (U' := T9.setTop (mkF m 47 #[.val (.int p0), .val (.int p1), .val (.int p2), .val (.int r), .val (.ref s11), .val (.int (p2 &&& (255 : Int32))), .unset, .unset] [(.int p1), (.int r), (.int (hor s11 p1 s11))])) (fun _ k => XS.iloadN X9.here hx rfl (hb hby at_46) rfl k) ?_
      obtain ⟨_, _, ⟨T10, L10, k10, n10⟩, -, X10, ⟨Lc10, hQ10, l10, y10, z10⟩, st10⟩ := Jvm.LawKit.callS X9 hx (y := (⟨"com/example/osprey/osprey/transform/RepertoireHoldsOnlyAsReferencePinLaw", "ref", "(II)Z"⟩ : MethodName)) hown (mvT hZ (hw _ (List.mem_of_getElem? (i := 10) rfl))) (mvT hZ (hw _ (List.mem_of_getElem? (i := 11) rfl))) (mvT hZ (hw _ (List.mem_of_getElem? (i := 12) rfl))) (mvT hZ (hw _ (List.mem_of_getElem? (i := 13) rfl))) (by decide) (backOf (W := 1) (rm2 l Z a0 hw [] r p1  h0 n0 Z0 ) hZ (hw _ (List.mem_of_getElem? (i := 13) rfl)) (hw _ (List.mem_of_getElem? (i := 12) rfl)) (by decide) (by decide)) (g := (mkF m 47 #[.val (.int p0), .val (.int p1), .val (.int p2), .val (.int r), .val (.ref s11), .val (.int (p2 &&& (255 : Int32))), .unset, .unset] [(.int p1), (.int r), (.int (hor s11 p1 s11))])) rfl (by rw [hml]; rfl) (argsL := [(.int r), (.int p1)]) (rest := [(.int (hor s11 p1 s11))]) (lenOf pd1 rfl) rfl (by show 2 * 0 + _ ≤ _; exact Nat.le_of_eq rfl) (hb hby at_47) (fun _ _ => ⟨rfl, e9, (by decide : 0 + 0 ≤ _), (by decide : 0 + 0 ≤ _)⟩)
      dsimp only [Pt.U, Pt.locs, Pt.cells, Pt.slots] at X10 l10 y10 z10 st10 hQ10
      subst l10 y10 z10
      obtain ⟨rfl, N10q, e10⟩ := hQ10
      have N10 := Fr.app N9 N10q
      refine Dn.by (U' := T10.setTop (mkF m 50 #[.val (.int p0), .val (.int p1), .val (.int p2), .val (.int r), .val (.ref s11), .val (.int (p2 &&& (255 : Int32))), .unset, .unset] [(.int (refF r p1)), (.int (hor s11 p1 s11))])) st10 ?_
      refine Dn.by (U' := T10.setTop (mkF m 53 #[.val (.int p0), .val (.int p1), .val (.int p2), .val (.int r), .val (.ref s11), .val (.int (p2 &&& (255 : Int32))), .unset, .unset] [])) (fun _ k => XS.icmpNo X10.here hx rfl (hb hby at_50) rfl (teq (by rw [c18_7]; exact own_hor1 _ _)).2 k) ?_
      refine Dn.by (U' := T10.setTop (mkF m 54 #[.val (.int p0), .val (.int p1), .val (.int p2), .val (.int r), .val (.ref s11), .val (.int (p2 &&& (255 : Int32))), .unset, .unset] [(.int (1 : Int32))])) (fun _ k => XS.iconst X10.here hx rfl (hb hby at_53)  k) ?_
      refine Dn.by (U' := T10.setTop (mkF m 58 #[.val (.int p0), .val (.int p1), .val (.int p2), .val (.int r), .val (.ref s11), .val (.int (p2 &&& (255 : Int32))), .unset, .unset] [(.int (1 : Int32))])) (fun _ k => XS.goto X10.here hx rfl (pc0 := 54) (pc' := 58) rfl (hb hby at_54) (by decide) (by decide) k) ?_
      refine Dn.by (U' := T10.setTop (mkF m 60 #[.val (.int p0), .val (.int p1), .val (.int p2), .val (.int r), .val (.ref s11), .val (.int (p2 &&& (255 : Int32))), .val (.int (1 : Int32)), .unset] [])) (fun _ k => XS.istore X10.here hx rfl (hb hby at_58) rfl (l' := #[.val (.int p0), .val (.int p1), .val (.int p2), .val (.int r), .val (.ref s11), .val (.int (p2 &&& (255 : Int32))), .val (.int (1 : Int32)), .unset]) rfl k) ?_
      refine Dn.by (U' := T10.setTop (mkF m 62 #[.val (.int p0), .val (.int p1), .val (.int p2), .val (.int r), .val (.ref s11), .val (.int (p2 &&& (255 : Int32))), .val (.int (1 : Int32)), .unset] [(.ref s11)])) (fun _ k => XS.aload X10.here hx rfl (hb hby at_60) rfl rfl k) ?_
      refine Dn.by (U' := T10.setTop (mkF m 64 #[.val (.int p0), .val (.int p1), .val (.int p2), .val (.int r), .val (.ref s11), .val (.int (p2 &&& (255 : Int32))), .val (.int (1 : Int32)), .unset] [(.int (p2 &&& (255 : Int32))), (.ref s11)])) (fun _ k => XS.iload X10.here hx rfl (hb hby at_62) rfl k) ?_
      obtain ⟨cq11, kq11, qa11, qb11, qc11⟩ := isOf hZ e10 E_s11
      obtain ⟨_, _, ⟨T11, L11, k11, n11⟩, -, X11, ⟨Lc11, hQ11, l11, y11, z11⟩, st11⟩ := X10.virtualBack hx (y := (⟨"com/example/osprey/osprey/transform/Repertoire", "holdsOnlyAsReference", "(I)Z"⟩ : MethodName)) (z := (⟨"com/example/osprey/osprey/transform/Repertoire", "holdsOnlyAsReference", "(I)Z"⟩ : MethodName)) hown (mvT hZ (hw _ (List.mem_of_getElem? (i := 3) rfl))) (mvT hZ (hw _ (List.mem_of_getElem? (i := 4) rfl))) (notFace_of_selects (args := #[]) (mvT hZ (hw _ (List.mem_of_getElem? (i := 6) rfl)))) (mvT hZ (hw _ (List.mem_of_getElem? (i := 6) rfl))) (mvT hZ (hw _ (List.mem_of_getElem? (i := 5) rfl))) (by decide) (backOf (W := 0) (rm1 l Z a0 hw [] s11 (p2 &&& (255 : Int32)) s11 h0 n0 Z0 S_s11) hZ (hw _ (List.mem_of_getElem? (i := 7) rfl)) (hw _ (List.mem_of_getElem? (i := 1) rfl)) (by decide) (by decide)) qa11 qc11 (g := (mkF m 64 #[.val (.int p0), .val (.int p1), .val (.int p2), .val (.int r), .val (.ref s11), .val (.int (p2 &&& (255 : Int32))), .val (.int (1 : Int32)), .unset] [(.int (p2 &&& (255 : Int32))), (.ref s11)])) rfl (by rw [hml]; rfl) (Steps.refl _) (argsL := [(.int (p2 &&& (255 : Int32)))]) (rest := []) (lenOf pd0 rfl) rfl (by show 2 * 0 + _ ≤ _; exact Nat.le_of_eq rfl) (hb hby at_64) (fun _ _ => ⟨rfl, e10, (by decide : 0 + 0 ≤ _), (by decide : 0 + 0 ≤ _)⟩)
      dsimp only [Pt.U, Pt.locs, Pt.cells, Pt.slots] at X11 l11 y11 z11 st11 hQ11
      subst l11 y11 z11
      obtain ⟨rfl, N11q, e11⟩ := hQ11
      have N11 := Fr.app N10 N11q
      refine Dn.by (U' := T11.setTop (mkF m 67 #[.val (.int p0), .val (.int p1), .val (.int p2), .val (.int r), .val (.ref s11), .val (.int (p2 &&& (255 : Int32))), .val (.int (1 : Int32)), .unset] [(.int (hor s11 (p2 &&& (255 : Int32)) s11))])) (fun _ k => st11.trans k) ?_
      refine Dn.by (U' := T11.setTop (mkF m 68 #[.val (.int p0), .val (.int p1), .val (.int p2), .val (.int r), .val (.ref s11), .val (.int (p2 &&& (255 : Int32))), .val (.int (1 : Int32)), .unset] [(.int r), (.int (hor s11 (p2 &&& (255 : Int32)) s11))])) (fun _ k => XS.iloadN X11.here hx rfl (hb hby at_67) rfl k) ?_
      refine Dn.by (U' := T11.setTop (mkF m 70 #[.val (.int p0), .val (.int p1), .val (.int p2), .val (.int r), .val (.ref s11), .val (.int (p2 &&& (255 : Int32))), .val (.int (1 : Int32)), .unset] [(.int (p2 &&& (255 : Int32))), (.int r), (.int (hor s11 (p2 &&& (255 : Int32)) s11))])) (fun _ k => XS.iload X11.here hx rfl (hb hby at_68) rfl k) ?_
      obtain ⟨_, _, ⟨T12, L12, k12, n12⟩, -, X12, ⟨Lc12, hQ12, l12, y12, z12⟩, st12⟩ := Jvm.LawKit.callS X11 hx (y := (⟨"com/example/osprey/osprey/transform/RepertoireHoldsOnlyAsReferencePinLaw", "ref", "(II)Z"⟩ : MethodName)) hown (mvT hZ (hw _ (List.mem_of_getElem? (i := 10) rfl))) (mvT hZ (hw _ (List.mem_of_getElem? (i := 11) rfl))) (mvT hZ (hw _ (List.mem_of_getElem? (i := 12) rfl))) (mvT hZ (hw _ (List.mem_of_getElem? (i := 13) rfl))) (by decide) (backOf (W := 1) (rm2 l Z a0 hw [] r (p2 &&& (255 : Int32))  h0 n0 Z0 ) hZ (hw _ (List.mem_of_getElem? (i := 13) rfl)) (hw _ (List.mem_of_getElem? (i := 12) rfl)) (by decide) (by decide)) (g := (mkF m 70 #[.val (.int p0), .val (.int p1), .val (.int p2), .val (.int r), .val (.ref s11), .val (.int (p2 &&& (255 : Int32))), .val (.int (1 : Int32)), .unset] [(.int (p2 &&& (255 : Int32))), (.int r), (.int (hor s11 (p2 &&& (255 : Int32)) s11))])) rfl (by rw [hml]; rfl) (argsL := [(.int r), (.int (p2 &&& (255 : Int32)))]) (rest := [(.int (hor s11 (p2 &&& (255 : Int32)) s11))]) (lenOf pd1 rfl) rfl (by show 2 * 0 + _ ≤ _; exact Nat.le_of_eq rfl) (hb hby at_70) (fun _ _ => ⟨rfl, e11, (by decide : 0 + 0 ≤ _), (by decide : 0 + 0 ≤ _)⟩)
      dsimp only [Pt.U, Pt.locs, Pt.cells, Pt.slots] at X12 l12 y12 z12 st12 hQ12
      subst l12 y12 z12
      obtain ⟨rfl, N12q, e12⟩ := hQ12
      have N12 := Fr.app N11 N12q
      refine Dn.by (U' := T12.setTop (mkF m 73 #[.val (.int p0), .val (.int p1), .val (.int p2), .val (.int r), .val (.ref s11), .val (.int (p2 &&& (255 : Int32))), .val (.int (1 : Int32)), .unset] [(.int (refF r (p2 &&& (255 : Int32)))), (.int (hor s11 (p2 &&& (255 : Int32)) s11))])) st12 ?_
      refine Dn.by (U' := T12.setTop (mkF m 76 #[.val (.int p0), .val (.int p1), .val (.int p2), .val (.int r), .val (.ref s11), .val (.int (p2 &&& (255 : Int32))), .val (.int (1 : Int32)), .unset] [])) (fun _ k => XS.icmpNo X12.here hx rfl (hb hby at_73) rfl (teq (by rw [c18_7]; exact own_hor1 _ _)).2 k) ?_
      refine Dn.by (U' := T12.setTop (mkF m 77 #[.val (.int p0), .val (.int p1), .val (.int p2), .val (.int r), .val (.ref s11), .val (.int (p2 &&& (255 : Int32))), .val (.int (1 : Int32)), .unset] [(.int (1 : Int32))])) (fun _ k => XS.iconst X12.here hx rfl (hb hby at_76)  k) ?_
      refine Dn.by (U' := T12.setTop (mkF m 81 #[.val (.int p0), .val (.int p1), .val (.int p2), .val (.int r), .val (.ref s11), .val (.int (p2 &&& (255 : Int32))), .val (.int (1 : Int32)), .unset] [(.int (1 : Int32))])) (fun _ k => XS.goto X12.here hx rfl (pc0 := 77) (pc' := 81) rfl (hb hby at_77) (by decide) (by decide) k) ?_
      refine Dn.by (U' := T12.setTop (mkF m 83 #[.val (.int p0), .val (.int p1), .val (.int p2), .val (.int r), .val (.ref s11), .val (.int (p2 &&& (255 : Int32))), .val (.int (1 : Int32)), .val (.int (1 : Int32))] [])) (fun _ k => XS.istore X12.here hx rfl (hb hby at_81) rfl (l' := #[.val (.int p0), .val (.int p1), .val (.int p2), .val (.int r), .val (.ref s11), .val (.int (p2 &&& (255 : Int32))), .val (.int (1 : Int32)), .val (.int (1 : Int32))]) rfl k) ?_
      refine Dn.by (U' := T12.setTop (mkF m 85 #[.val (.int p0), .val (.int p1), .val (.int p2), .val (.int r), .val (.ref s11), .val (.int (p2 &&& (255 : Int32))), .val (.int (1 : Int32)), .val (.int (1 : Int32))] [(.int (1 : Int32))])) (fun _ k => XS.iload X12.here hx rfl (hb hby at_83) rfl k) ?_
      refine Dn.by (U' := T12.setTop (mkF m 88 #[.val (.int p0), .val (.int p1), .val (.int p2), .val (.int r), .val (.ref s11), .val (.int (p2 &&& (255 : Int32))), .val (.int (1 : Int32)), .val (.int (1 : Int32))] [])) (fun _ k => XS.ifNo X12.here hx rfl (hb hby at_85) rfl (by decide) k) ?_
      refine Dn.by (U' := T12.setTop (mkF m 90 #[.val (.int p0), .val (.int p1), .val (.int p2), .val (.int r), .val (.ref s11), .val (.int (p2 &&& (255 : Int32))), .val (.int (1 : Int32)), .val (.int (1 : Int32))] [(.int (1 : Int32))])) (fun _ k => XS.iload X12.here hx rfl (hb hby at_88) rfl k) ?_
      refine Dn.by (U' := T12.setTop (mkF m 93 #[.val (.int p0), .val (.int p1), .val (.int p2), .val (.int r), .val (.ref s11), .val (.int (p2 &&& (255 : Int32))), .val (.int (1 : Int32)), .val (.int (1 : Int32))] [])) (fun _ k => XS.ifNo X12.here hx rfl (hb hby at_90) rfl (by decide) k) ?_
      refine Dn.by (U' := T12.setTop (mkF m 94 #[.val (.int p0), .val (.int p1), .val (.int p2), .val (.int r), .val (.ref s11), .val (.int (p2 &&& (255 : Int32))), .val (.int (1 : Int32)), .val (.int (1 : Int32))] [(.int (1 : Int32))])) (fun _ k => XS.iconst X12.here hx rfl (hb hby at_93)  k) ?_
      refine Dn.by (U' := T12.setTop (mkF m 98 #[.val (.int p0), .val (.int p1), .val (.int p2), .val (.int r), .val (.ref s11), .val (.int (p2 &&& (255 : Int32))), .val (.int (1 : Int32)), .val (.int (1 : Int32))] [(.int (1 : Int32))])) (fun _ k => XS.goto X12.here hx rfl (pc0 := 94) (pc' := 98) rfl (hb hby at_94) (by decide) (by decide) k) ?_
      refine Dn.out X12 (v := (some (.int (1 : Int32)))) (fun h => by rw [Bd.returns] at h; cases h) (BodyLoose.notSynchronized Bd) (fun _ hr => retN X12 hx (t := .boolean) Bd.returns (by simp) (hb hby at_98) hr) (by decide) (by decide) ?_
      rw [e12]
      exact ⟨rfl, N12⟩
    ·
      refine Dn.by (U' := s₁.setTop (mkF m 27 #[.val (.int p0), .val (.int p1), .val (.int p2), .val (.int r), .unset, .unset, .unset, .unset] [])) (fun _ k => XS.icmpYes X0.here hx rfl (pc0 := 18) (pc' := 27) rfl (hb hby at_18) rfl (feq c18_7).2 (by decide) (by decide) k) ?_
      obtain ⟨T13, X13, e13, st13⟩ := getS2 X0 hx hZ (a0 := a0) hown (host := "") (Or.inl (hw _ (List.mem_of_getElem? (i := 15) rfl))) Via.refl e0 S_sh (g := (mkF m 27 #[.val (.int p0), .val (.int p1), .val (.int p2), .val (.int r), .unset, .unset, .unset, .unset] [])) rfl (hb hby at_27)
      refine Dn.by (U' := T13.setTop (mkF m 30 #[.val (.int p0), .val (.int p1), .val (.int p2), .val (.int r), .unset, .unset, .unset, .unset] [(.ref sh)])) st13 ?_
      refine Dn.by (U' := T13.setTop (mkF m 32 #[.val (.int p0), .val (.int p1), .val (.int p2), .val (.int r), .val (.ref sh), .unset, .unset, .unset] [])) (fun _ k => XS.astore X13.here hx rfl (hb hby at_30) rfl rfl (l' := #[.val (.int p0), .val (.int p1), .val (.int p2), .val (.int r), .val (.ref sh), .unset, .unset, .unset]) rfl k) ?_
      refine Dn.by (U' := T13.setTop (mkF m 33 #[.val (.int p0), .val (.int p1), .val (.int p2), .val (.int r), .val (.ref sh), .unset, .unset, .unset] [(.int p2)])) (fun _ k => XS.iloadN X13.here hx rfl (hb hby at_32) rfl k) ?_
      refine Dn.by (U' := T13.setTop (mkF m 36 #[.val (.int p0), .val (.int p1), .val (.int p2), .val (.int r), .val (.ref sh), .unset, .unset, .unset] [(.int (255 : Int32)), (.int p2)])) (fun _ k => XS.sipush X13.here hx rfl (hb hby at_33)  k) ?_
      refine Dn.by (U' := T13.setTop (mkF m 37 #[.val (.int p0), .val (.int p1), .val (.int p2), .val (.int r), .val (.ref sh), .unset, .unset, .unset] [(.int (p2 &&& (255 : Int32)))])) (fun _ k => XS.iand X13.here hx rfl (hb hby at_36) rfl k) ?_
      refine Dn.by (U' := T13.setTop (mkF m 39 #[.val (.int p0), .val (.int p1), .val (.int p2), .val (.int r), .val (.ref sh), .val (.int (p2 &&& (255 : Int32))), .unset, .unset] [])) (fun _ k => XS.istore X13.here hx rfl (hb hby at_37) rfl (l' := #[.val (.int p0), .val (.int p1), .val (.int p2), .val (.int r), .val (.ref sh), .val (.int (p2 &&& (255 : Int32))), .unset, .unset]) rfl k) ?_
      refine Dn.by (U' := T13.setTop (mkF m 41 #[.val (.int p0), .val (.int p1), .val (.int p2), .val (.int r), .val (.ref sh), .val (.int (p2 &&& (255 : Int32))), .unset, .unset] [(.ref sh)])) (fun _ k => XS.aload X13.here hx rfl (hb hby at_39) rfl rfl k) ?_
      refine Dn.by (U' := T13.setTop (mkF m 42 #[.val (.int p0), .val (.int p1), .val (.int p2), .val (.int r), .val (.ref sh), .val (.int (p2 &&& (255 : Int32))), .unset, .unset] [(.int p1), (.ref sh)])) (fun _ k => XS.iloadN X13.here hx rfl (hb hby at_41) rfl k) ?_
      obtain ⟨cq14, kq14, qa14, qb14, qc14⟩ := isOf hZ e13 E_sh
      obtain ⟨_, _, ⟨T14, L14, k14, n14⟩, -, X14, ⟨Lc14, hQ14, l14, y14, z14⟩, st14⟩ := X13.virtualBack hx (y := (⟨"com/example/osprey/osprey/transform/Repertoire", "holdsOnlyAsReference", "(I)Z"⟩ : MethodName)) (z := (⟨"com/example/osprey/osprey/transform/Repertoire", "holdsOnlyAsReference", "(I)Z"⟩ : MethodName)) hown (mvT hZ (hw _ (List.mem_of_getElem? (i := 3) rfl))) (mvT hZ (hw _ (List.mem_of_getElem? (i := 4) rfl))) (notFace_of_selects (args := #[]) (mvT hZ (hw _ (List.mem_of_getElem? (i := 6) rfl)))) (mvT hZ (hw _ (List.mem_of_getElem? (i := 6) rfl))) (mvT hZ (hw _ (List.mem_of_getElem? (i := 5) rfl))) (by decide) (backOf (W := 0) (rm1 l Z a0 hw [] sh p1 s11 h0 n0 Z0 S_s11) hZ (hw _ (List.mem_of_getElem? (i := 7) rfl)) (hw _ (List.mem_of_getElem? (i := 1) rfl)) (by decide) (by decide)) qa14 qc14 (g := (mkF m 42 #[.val (.int p0), .val (.int p1), .val (.int p2), .val (.int r), .val (.ref sh), .val (.int (p2 &&& (255 : Int32))), .unset, .unset] [(.int p1), (.ref sh)])) rfl (by rw [hml]; rfl) (Steps.refl _) (argsL := [(.int p1)]) (rest := []) (lenOf pd0 rfl) rfl (by show 2 * 0 + _ ≤ _; exact Nat.le_of_eq rfl) (hb hby at_42) (fun _ _ => ⟨rfl, e13, (by decide : 0 + 0 ≤ _), (by decide : 0 + 0 ≤ _)⟩)
      dsimp only [Pt.U, Pt.locs, Pt.cells, Pt.slots] at X14 l14 y14 z14 st14 hQ14
      subst l14 y14 z14
      obtain ⟨rfl, N14q, e14⟩ := hQ14
      have N14 := Fr.app N0 N14q
      refine Dn.by (U' := T14.setTop (mkF m 45 #[.val (.int p0), .val (.int p1), .val (.int p2), .val (.int r), .val (.ref sh), .val (.int (p2 &&& (255 : Int32))), .unset, .unset] [(.int (hor sh p1 s11))])) (fun _ k => st14.trans k) ?_
      refine Dn.by (U' := T14.setTop (mkF m 46 #[.val (.int p0), .val (.int p1), .val (.int p2), .val (.int r), .val (.ref sh), .val (.int (p2 &&& (255 : Int32))), .unset, .unset] [(.int r), (.int (hor sh p1 s11))])) (fun _ k => XS.iloadN X14.here hx rfl (hb hby at_45) rfl k) ?_
      refine Dn.by (U' := T14.setTop (mkF m 47 #[.val (.int p0), .val (.int p1), .val (.int p2), .val (.int r), .val (.ref sh), .val (.int (p2 &&& (255 : Int32))), .unset, .unset] [(.int p1), (.int r), (.int (hor sh p1 s11))])) (fun _ k => XS.iloadN X14.here hx rfl (hb hby at_46) rfl k) ?_
      obtain ⟨_, _, ⟨T15, L15, k15, n15⟩, -, X15, ⟨Lc15, hQ15, l15, y15, z15⟩, st15⟩ := Jvm.LawKit.callS X14 hx (y := (⟨"com/example/osprey/osprey/transform/RepertoireHoldsOnlyAsReferencePinLaw", "ref", "(II)Z"⟩ : MethodName)) hown (mvT hZ (hw _ (List.mem_of_getElem? (i := 10) rfl))) (mvT hZ (hw _ (List.mem_of_getElem? (i := 11) rfl))) (mvT hZ (hw _ (List.mem_of_getElem? (i := 12) rfl))) (mvT hZ (hw _ (List.mem_of_getElem? (i := 13) rfl))) (by decide) (backOf (W := 1) (rm2 l Z a0 hw [] r p1  h0 n0 Z0 ) hZ (hw _ (List.mem_of_getElem? (i := 13) rfl)) (hw _ (List.mem_of_getElem? (i := 12) rfl)) (by decide) (by decide)) (g := (mkF m 47 #[.val (.int p0), .val (.int p1), .val (.int p2), .val (.int r), .val (.ref sh), .val (.int (p2 &&& (255 : Int32))), .unset, .unset] [(.int p1), (.int r), (.int (hor sh p1 s11))])) rfl (by rw [hml]; rfl) (argsL := [(.int r), (.int p1)]) (rest := [(.int (hor sh p1 s11))]) (lenOf pd1 rfl) rfl (by show 2 * 0 + _ ≤ _; exact Nat.le_of_eq rfl) (hb hby at_47) (fun _ _ => ⟨rfl, e14, (by decide : 0 + 0 ≤ _), (by decide : 0 + 0 ≤ _)⟩)
      dsimp only [Pt.U, Pt.locs, Pt.cells, Pt.slots] at X15 l15 y15 z15 st15 hQ15
      subst l15 y15 z15
      obtain ⟨rfl, N15q, e15⟩ := hQ15
      have N15 := Fr.app N14 N15q
      refine Dn.by (U' := T15.setTop (mkF m 50 #[.val (.int p0), .val (.int p1), .val (.int p2), .val (.int r), .val (.ref sh), .val (.int (p2 &&& (255 : Int32))), .unset, .unset] [(.int (refF r p1)), (.int (hor sh p1 s11))])) st15 ?_
      refine Dn.by (U' := T15.setTop (mkF m 53 #[.val (.int p0), .val (.int p1), .val (.int p2), .val (.int r), .val (.ref sh), .val (.int (p2 &&& (255 : Int32))), .unset, .unset] [])) (fun _ k => XS.icmpNo X15.here hx rfl (hb hby at_50) rfl (teq ((own_hor0 _ _ _ ne_sh).trans (own_ref0 _ _ c18_7).symm)).2 k) ?_
      refine Dn.by (U' := T15.setTop (mkF m 54 #[.val (.int p0), .val (.int p1), .val (.int p2), .val (.int r), .val (.ref sh), .val (.int (p2 &&& (255 : Int32))), .unset, .unset] [(.int (1 : Int32))])) (fun _ k => XS.iconst X15.here hx rfl (hb hby at_53)  k) ?_
      refine Dn.by (U' := T15.setTop (mkF m 58 #[.val (.int p0), .val (.int p1), .val (.int p2), .val (.int r), .val (.ref sh), .val (.int (p2 &&& (255 : Int32))), .unset, .unset] [(.int (1 : Int32))])) (fun _ k => XS.goto X15.here hx rfl (pc0 := 54) (pc' := 58) rfl (hb hby at_54) (by decide) (by decide) k) ?_
      refine Dn.by (U' := T15.setTop (mkF m 60 #[.val (.int p0), .val (.int p1), .val (.int p2), .val (.int r), .val (.ref sh), .val (.int (p2 &&& (255 : Int32))), .val (.int (1 : Int32)), .unset] [])) (fun _ k => XS.istore X15.here hx rfl (hb hby at_58) rfl (l' := #[.val (.int p0), .val (.int p1), .val (.int p2), .val (.int r), .val (.ref sh), .val (.int (p2 &&& (255 : Int32))), .val (.int (1 : Int32)), .unset]) rfl k) ?_
      refine Dn.by (U' := T15.setTop (mkF m 62 #[.val (.int p0), .val (.int p1), .val (.int p2), .val (.int r), .val (.ref sh), .val (.int (p2 &&& (255 : Int32))), .val (.int (1 : Int32)), .unset] [(.ref sh)])) (fun _ k => XS.aload X15.here hx rfl (hb hby at_60) rfl rfl k) ?_
      refine Dn.by (U' := T15.setTop (mkF m 64 #[.val (.int p0), .val (.int p1), .val (.int p2), .val (.int r), .val (.ref sh), .val (.int (p2 &&& (255 : Int32))), .val (.int (1 : Int32)), .unset] [(.int (p2 &&& (255 : Int32))), (.ref sh)])) (fun _ k => XS.iload X15.here hx rfl (hb hby at_62) rfl k) ?_
      obtain ⟨cq16, kq16, qa16, qb16, qc16⟩ := isOf hZ e15 E_sh
      obtain ⟨_, _, ⟨T16, L16, k16, n16⟩, -, X16, ⟨Lc16, hQ16, l16, y16, z16⟩, st16⟩ := X15.virtualBack hx (y := (⟨"com/example/osprey/osprey/transform/Repertoire", "holdsOnlyAsReference", "(I)Z"⟩ : MethodName)) (z := (⟨"com/example/osprey/osprey/transform/Repertoire", "holdsOnlyAsReference", "(I)Z"⟩ : MethodName)) hown (mvT hZ (hw _ (List.mem_of_getElem? (i := 3) rfl))) (mvT hZ (hw _ (List.mem_of_getElem? (i := 4) rfl))) (notFace_of_selects (args := #[]) (mvT hZ (hw _ (List.mem_of_getElem? (i := 6) rfl)))) (mvT hZ (hw _ (List.mem_of_getElem? (i := 6) rfl))) (mvT hZ (hw _ (List.mem_of_getElem? (i := 5) rfl))) (by decide) (backOf (W := 0) (rm1 l Z a0 hw [] sh (p2 &&& (255 : Int32)) s11 h0 n0 Z0 S_s11) hZ (hw _ (List.mem_of_getElem? (i := 7) rfl)) (hw _ (List.mem_of_getElem? (i := 1) rfl)) (by decide) (by decide)) qa16 qc16 (g := (mkF m 64 #[.val (.int p0), .val (.int p1), .val (.int p2), .val (.int r), .val (.ref sh), .val (.int (p2 &&& (255 : Int32))), .val (.int (1 : Int32)), .unset] [(.int (p2 &&& (255 : Int32))), (.ref sh)])) rfl (by rw [hml]; rfl) (Steps.refl _) (argsL := [(.int (p2 &&& (255 : Int32)))]) (rest := []) (lenOf pd0 rfl) rfl (by show 2 * 0 + _ ≤ _; exact Nat.le_of_eq rfl) (hb hby at_64) (fun _ _ => ⟨rfl, e15, (by decide : 0 + 0 ≤ _), (by decide : 0 + 0 ≤ _)⟩)
      dsimp only [Pt.U, Pt.locs, Pt.cells, Pt.slots] at X16 l16 y16 z16 st16 hQ16
      subst l16 y16 z16
      obtain ⟨rfl, N16q, e16⟩ := hQ16
      have N16 := Fr.app N15 N16q
      refine Dn.by (U' := T16.setTop (mkF m 67 #[.val (.int p0), .val (.int p1), .val (.int p2), .val (.int r), .val (.ref sh), .val (.int (p2 &&& (255 : Int32))), .val (.int (1 : Int32)), .unset] [(.int (hor sh (p2 &&& (255 : Int32)) s11))])) (fun _ k => st16.trans k) ?_
      refine Dn.by (U' := T16.setTop (mkF m 68 #[.val (.int p0), .val (.int p1), .val (.int p2), .val (.int r), .val (.ref sh), .val (.int (p2 &&& (255 : Int32))), .val (.int (1 : Int32)), .unset] [(.int r), (.int (hor sh (p2 &&& (255 : Int32)) s11))])) (fun _ k => XS.iloadN X16.here hx rfl (hb hby at_67) rfl k) ?_
      refine Dn.by (U' := T16.setTop (mkF m 70 #[.val (.int p0), .val (.int p1), .val (.int p2), .val (.int r), .val (.ref sh), .val (.int (p2 &&& (255 : Int32))), .val (.int (1 : Int32)), .unset] [(.int (p2 &&& (255 : Int32))), (.int r), (.int (hor sh (p2 &&& (255 : Int32)) s11))])) (fun _ k => XS.iload X16.here hx rfl (hb hby at_68) rfl k) ?_
      obtain ⟨_, _, ⟨T17, L17, k17, n17⟩, -, X17, ⟨Lc17, hQ17, l17, y17, z17⟩, st17⟩ := Jvm.LawKit.callS X16 hx (y := (⟨"com/example/osprey/osprey/transform/RepertoireHoldsOnlyAsReferencePinLaw", "ref", "(II)Z"⟩ : MethodName)) hown (mvT hZ (hw _ (List.mem_of_getElem? (i := 10) rfl))) (mvT hZ (hw _ (List.mem_of_getElem? (i := 11) rfl))) (mvT hZ (hw _ (List.mem_of_getElem? (i := 12) rfl))) (mvT hZ (hw _ (List.mem_of_getElem? (i := 13) rfl))) (by decide) (backOf (W := 1) (rm2 l Z a0 hw [] r (p2 &&& (255 : Int32))  h0 n0 Z0 ) hZ (hw _ (List.mem_of_getElem? (i := 13) rfl)) (hw _ (List.mem_of_getElem? (i := 12) rfl)) (by decide) (by decide)) (g := (mkF m 70 #[.val (.int p0), .val (.int p1), .val (.int p2), .val (.int r), .val (.ref sh), .val (.int (p2 &&& (255 : Int32))), .val (.int (1 : Int32)), .unset] [(.int (p2 &&& (255 : Int32))), (.int r), (.int (hor sh (p2 &&& (255 : Int32)) s11))])) rfl (by rw [hml]; rfl) (argsL := [(.int r), (.int (p2 &&& (255 : Int32)))]) (rest := [(.int (hor sh (p2 &&& (255 : Int32)) s11))]) (lenOf pd1 rfl) rfl (by show 2 * 0 + _ ≤ _; exact Nat.le_of_eq rfl) (hb hby at_70) (fun _ _ => ⟨rfl, e16, (by decide : 0 + 0 ≤ _), (by decide : 0 + 0 ≤ _)⟩)
      dsimp only [Pt.U, Pt.locs, Pt.cells, Pt.slots] at X17 l17 y17 z17 st17 hQ17
      subst l17 y17 z17
      obtain ⟨rfl, N17q, e17⟩ := hQ17
      have N17 := Fr.app N16 N17q
      refine Dn.by (U' := T17.setTop (mkF m 73 #[.val (.int p0), .val (.int p1), .val (.int p2), .val (.int r), .val (.ref sh), .val (.int (p2 &&& (255 : Int32))), .val (.int (1 : Int32)), .unset] [(.int (refF r (p2 &&& (255 : Int32)))), (.int (hor sh (p2 &&& (255 : Int32)) s11))])) st17 ?_
      refine Dn.by (U' := T17.setTop (mkF m 76 #[.val (.int p0), .val (.int p1), .val (.int p2), .val (.int r), .val (.ref sh), .val (.int (p2 &&& (255 : Int32))), .val (.int (1 : Int32)), .unset] [])) (fun _ k => XS.icmpNo X17.here hx rfl (hb hby at_73) rfl (teq ((own_hor0 _ _ _ ne_sh).trans (own_ref0 _ _ c18_7).symm)).2 k) ?_
      refine Dn.by (U' := T17.setTop (mkF m 77 #[.val (.int p0), .val (.int p1), .val (.int p2), .val (.int r), .val (.ref sh), .val (.int (p2 &&& (255 : Int32))), .val (.int (1 : Int32)), .unset] [(.int (1 : Int32))])) (fun _ k => XS.iconst X17.here hx rfl (hb hby at_76)  k) ?_
      refine Dn.by (U' := T17.setTop (mkF m 81 #[.val (.int p0), .val (.int p1), .val (.int p2), .val (.int r), .val (.ref sh), .val (.int (p2 &&& (255 : Int32))), .val (.int (1 : Int32)), .unset] [(.int (1 : Int32))])) (fun _ k => XS.goto X17.here hx rfl (pc0 := 77) (pc' := 81) rfl (hb hby at_77) (by decide) (by decide) k) ?_
      refine Dn.by (U' := T17.setTop (mkF m 83 #[.val (.int p0), .val (.int p1), .val (.int p2), .val (.int r), .val (.ref sh), .val (.int (p2 &&& (255 : Int32))), .val (.int (1 : Int32)), .val (.int (1 : Int32))] [])) (fun _ k => XS.istore X17.here hx rfl (hb hby at_81) rfl (l' := #[.val (.int p0), .val (.int p1), .val (.int p2), .val (.int r), .val (.ref sh), .val (.int (p2 &&& (255 : Int32))), .val (.int (1 : Int32)), .val (.int (1 : Int32))]) rfl k) ?_
      refine Dn.by (U' := T17.setTop (mkF m 85 #[.val (.int p0), .val (.int p1), .val (.int p2), .val (.int r), .val (.ref sh), .val (.int (p2 &&& (255 : Int32))), .val (.int (1 : Int32)), .val (.int (1 : Int32))] [(.int (1 : Int32))])) (fun _ k => XS.iload X17.here hx rfl (hb hby at_83) rfl k) ?_
      refine Dn.by (U' := T17.setTop (mkF m 88 #[.val (.int p0), .val (.int p1), .val (.int p2), .val (.int r), .val (.ref sh), .val (.int (p2 &&& (255 : Int32))), .val (.int (1 : Int32)), .val (.int (1 : Int32))] [])) (fun _ k => XS.ifNo X17.here hx rfl (hb hby at_85) rfl (by decide) k) ?_
      refine Dn.by (U' := T17.setTop (mkF m 90 #[.val (.int p0), .val (.int p1), .val (.int p2), .val (.int r), .val (.ref sh), .val (.int (p2 &&& (255 : Int32))), .val (.int (1 : Int32)), .val (.int (1 : Int32))] [(.int (1 : Int32))])) (fun _ k => XS.iload X17.here hx rfl (hb hby at_88) rfl k) ?_
      refine Dn.by (U' := T17.setTop (mkF m 93 #[.val (.int p0), .val (.int p1), .val (.int p2), .val (.int r), .val (.ref sh), .val (.int (p2 &&& (255 : Int32))), .val (.int (1 : Int32)), .val (.int (1 : Int32))] [])) (fun _ k => XS.ifNo X17.here hx rfl (hb hby at_90) rfl (by decide) k) ?_
      refine Dn.by (U' := T17.setTop (mkF m 94 #[.val (.int p0), .val (.int p1), .val (.int p2), .val (.int r), .val (.ref sh), .val (.int (p2 &&& (255 : Int32))), .val (.int (1 : Int32)), .val (.int (1 : Int32))] [(.int (1 : Int32))])) (fun _ k => XS.iconst X17.here hx rfl (hb hby at_93)  k) ?_
      refine Dn.by (U' := T17.setTop (mkF m 98 #[.val (.int p0), .val (.int p1), .val (.int p2), .val (.int r), .val (.ref sh), .val (.int (p2 &&& (255 : Int32))), .val (.int (1 : Int32)), .val (.int (1 : Int32))] [(.int (1 : Int32))])) (fun _ k => XS.goto X17.here hx rfl (pc0 := 94) (pc' := 98) rfl (hb hby at_94) (by decide) (by decide) k) ?_
      refine Dn.out X17 (v := (some (.int (1 : Int32)))) (fun h => by rw [Bd.returns] at h; cases h) (BodyLoose.notSynchronized Bd) (fun _ hr => retN X17 hx (t := .boolean) Bd.returns (by simp) (hb hby at_98) hr) (by decide) (by decide) ?_
      rw [e17]
      exact ⟨rfl, N17⟩
set_option maxRecDepth 65536 in
set_option maxHeartbeats 40000000 in
theorem comes_1 {Post : Tables → Env → Array Value → State → Outcome → State → Prop} (hpost : ∀ tb e args s v u, (limb_1_1.after args s (.returned v) u = true ∧ limb_1_2.after args s (.returned v) u = true ∧ True) → FrameEnd s (.returned v) u (Jvm.fieldLocs frame_1_writes args s ++ Jvm.arrayLocs frame_1_arrays args s ++ Jvm.staticLocs frame_1_statics s) 0 0 → Post tb e args s (.returned v) u) :
    ArmFor flags0 classFile x code maxLocals ret World_1 tables_1 room_1 Calls_1 rest_1 Pre_1 Post := by
  intro l hfl _ _ p e ha hc hk s m args below hf hA hF happ hP
  obtain ⟨hcalls, hrest, hpre⟩ := hP
  obtain ⟨-, -, -, hnamed, -, -, -, hat⟩ := (Spec.applies_iff hf).mp happ
  obtain ⟨hg, hn⟩ := and_e (Cond.before_iff.mp (show (Jvm.Cond.and given_1 narrow_1).before args s = true from hpre))
  obtain ⟨gg1, gg2⟩ := and_e hg
  obtain ⟨gg3, gg4⟩ := and_e gg2
  obtain ⟨gg5, gg6⟩ := and_e gg4
  obtain ⟨w0, w1, w2, rfl⟩ : ∃ w0 w1 w2 : Value, args = #[w0, w1, w2] := by
    have hs : args.size = 3 := by simpa [Cond.value, given_1] using gg1
    obtain ⟨L⟩ := args
    match L, hs with
    | [w0, w1, w2], _ => exact ⟨w0, w1, w2, rfl⟩
  have hw := fun d (hd : d ∈ tables_1) => atoms_spec (ws := Jvm.Cond.code x code maxLocals ret :: tables_1) hat d (List.mem_cons_of_mem _ hd)
  have hfit : Fit s := fun {y c} hc i hi => by
    obtain ⟨ha, rfl⟩ := Array.getElem?_eq_some_iff.mp hc
    have q := List.all_eq_true.mp ((Array.all_eq_true_iff_forall_mem.mp hF) _ (Array.getElem_mem ha)) i (List.mem_range.mpr hi)
    simpa [Array.getElem?_eq_getElem hi] using q
  obtain ⟨i0, ei0⟩ := is_v gg3
  obtain rfl : w0 = (.int i0) := Option.some.inj ei0
  obtain ⟨i1, ei1⟩ := is_v gg5
  obtain rfl : w1 = (.int i1) := Option.some.inj ei1
  obtain ⟨i2, ei2⟩ := is_v gg6
  obtain rfl : w2 = (.int i2) := Option.some.inj ei2
  obtain ⟨x1, hn⟩ := and_e hn
  obtain ⟨x2, hn⟩ := and_e hn
  obtain ⟨x3, hn⟩ := and_e hn
  obtain ⟨x4, hn⟩ := and_e hn
  obtain ⟨x5, x6⟩ := and_e hn
  obtain ⟨s10, ev_s10⟩ := exa_v x1
  have E_s10 := Exa.start ev_s10 x1
  have S_s10 := Sta.start ev_s10 (Or.inr ⟨(hw _ (List.mem_of_getElem? (i := 1) rfl)), (hw _ (List.mem_of_getElem? (i := 2) rfl))⟩)
  have F_s10 := Fld.start ((fld_at ev_s10).symm.trans (eqv_i (Term.int_eval (0)) x3))
  obtain ⟨s11, ev_s11⟩ := exa_v x2
  have E_s11 := Exa.start ev_s11 x2
  have S_s11 := Sta.start ev_s11 (Or.inr ⟨(hw _ (List.mem_of_getElem? (i := 1) rfl)), (hw _ (List.mem_of_getElem? (i := 9) rfl))⟩)
  have F_s11 := Fld.start ((fld_at ev_s11).symm.trans (eqv_i (Term.int_eval (1)) x4))
  obtain ⟨sh, ev_sh⟩ := exa_v x5
  have E_sh := Exa.start ev_sh x5
  have S_sh := Sta.start ev_sh (Or.inr ⟨(hw _ (List.mem_of_getElem? (i := 1) rfl)), (hw _ (List.mem_of_getElem? (i := 16) rfl))⟩)
  have F_sh := Fld.start ((fld_at ev_sh).symm.trans (eqv_i (Term.int_eval (2)) x6))
  have ne_s10 : ¬ s10 = s11 := Fld.ne F_s10 F_s11 (by decide)
  have ne_sh : ¬ sh = s11 := Fld.ne F_sh F_s11 (by decide)
  obtain ⟨n, o, h1, h2, h3, _, L, rfl, ⟨rfl, N⟩, hq⟩ := rm0 l s _ hw tables_1 i0 i1 i2 s10 s11 sh s.heap s.heap.size (Nat.le_refl _) S_s10 E_s10 S_s11 E_s11 S_sh E_sh ne_s10 ne_sh p e ha hc hk s m _ below hf ((Spec.applies_iff_loose hf).mp happ).1 ⟨rfl, State.Warmed39.refl s, rfl⟩ trivial
  refine ⟨n, _, h1, h2, h3, hpost _ _ _ _ _ _ ⟨Cond.after_iff.mpr rfl, Cond.after_iff.mpr (eq_i res_at (Term.int_eval (1)) rfl), trivial⟩ ⟨hq.1, hq.2.1, (hq.2.2.sift fun y hy => Or.inr (N y hy)).mono (by decide) (by decide)⟩⟩
theorem main_1_1 : Claimed_1_1 := comes_1 fun _ _ _ _ _ _ h hF => ⟨h.1, hF⟩
theorem main_1_2 : Claimed_1_2 := comes_1 fun _ _ _ _ _ _ h hF => ⟨h.2.1, hF⟩
end Jvm.Pilot.@@N@@
namespace Jvm.Pilot.@@N@@
open Jvm Jvm.ClassFile Sem Op Lib Jvm.Free Jvm.Stand Jvm.Pilot.@@N@@.Jvm.D
/-! MADE BY PROGRAM (witnessworld.py) out of the Statement's table words and the real class files: 10 classes; the members and pool entries that the words name. The judged class is class 1, her method 1. -/
namespace start1
open Jvm.ClassFile
def u (s : String) : CpInfo := .utf8 (stringToUtf16 s)
/-- a pool by its gaps: so many unusable entries, then the entry; so many at the end -/
def gap : Nat → List CpInfo → List CpInfo
  | 0, r => r
  | n + 1, r => .unusable :: gap n r
def poolList (es : List (Nat × CpInfo)) (last : Nat) : List CpInfo := es.foldr (fun e r => gap e.1 (e.2 :: r)) (gap last [])
def pool (es : List (Nat × CpInfo)) (last : Nat) : Array CpInfo := ⟨poolList es last⟩
def fileOf (pool : Array CpInfo) (this : Nat) (attrs : Array Attribute := #[]) (ms : Array MethodInfo := #[]) (fl : Nat := 33) (sup : Nat := 0) (ifs : Array Nat := #[]) (fds : Array FieldInfo := #[]) : ClassFile where
  minorVersion := 0
  majorVersion := 65
  constantPool := pool
  accessFlags := fl
  thisClass := this
  superClass := sup
  interfaces := ifs
  fields := fds
  methods := ms
  attributes := attrs
def plain (name : String) (sup : Option ClassId) : Class where
  name := name
  kind := .ordinary
  loader := none
  accessFlags := 33
  super := sup
  interfaces := #[]
  cf := none
  fields := #[]
  methods := #[]
  instanceTypes := #[]
  staticTypes := #[]
  resolved := #[]
  callSites := []
  init := .initialized
  statics := none
  mirror := none

def pool0 : Array CpInfo := pool [(5, u "<init>"), (0, u "()V"), (1, .class_ 10), (1, u "java/lang/Object")] 113

def k0m0 : Method := { name := "<init>", desc := "()V", sig := { parameters := [], returnType := none }, accessFlags := 1, code := none }
/-- java/lang/Object -/
def k0 : Class := { plain "java/lang/Object" none with
  accessFlags := 33
  interfaces := #[]
  cf := some (fileOf pool0 8 #[] #[{ accessFlags := 1, nameIndex := 5, descriptorIndex := 6, attributes := #[] }] 33 0 #[] #[])
  fields := #[]
  methods := #[k0m0]
  instanceTypes := #[]
  staticTypes := #[]
  resolved := Array.replicate 124 none
  statics := none }

def pool1 : Array CpInfo := pool [(2, .class_ 4), (1, u "java/lang/Object"), (0, u "<init>"), (0, u "()V"), (0, .fieldref 8 9), (0, .class_ 10), (0, .nameAndType 11 12), (0, u "com/example/osprey/osprey/transform/Repertoire"), (0, u "XML_1_0"), (0, u "Lcom/example/osprey/osprey/transform/Repertoire;"), (0, .fieldref 8 14), (0, .nameAndType 15 12), (0, u "XML_1_1"), (0, .fieldref 8 17), (0, .nameAndType 18 12), (0, u "HTML"), (0, .methodref 8 20), (0, .nameAndType 21 22), (0, u "holdsOnlyAsReference"), (0, u "(I)Z"), (0, .methodref 24 25), (0, .class_ 26), (0, .nameAndType 27 28), (0, u "com/example/osprey/osprey/transform/RepertoireHoldsOnlyAsReferencePinLaw"), (0, u "ref"), (0, u "(II)Z"), (2, u "law"), (0, u "(III)Z")] 3

def k1m0 : Method := { name := "<init>", desc := "()V", sig := { parameters := [], returnType := none }, accessFlags := 1, code := none }
def k1c1 : Code := { maxStack := 3, maxLocals := 8, code := code, exceptionTable := #[], attributes := #[] }
def k1m1 : Method := { name := "law", desc := "(III)Z", sig := { parameters := [.int, .int, .int], returnType := some .boolean }, accessFlags := 9, code := some k1c1 }
def k1c2 : Code := { maxStack := 2, maxLocals := 2, code := method_3_code, exceptionTable := #[], attributes := #[] }
def k1m2 : Method := { name := "ref", desc := "(II)Z", sig := { parameters := [.int, .int], returnType := some .boolean }, accessFlags := 10, code := some k1c2 }
/-- com/example/osprey/osprey/transform/RepertoireHoldsOnlyAsReferencePinLaw -/
def k1 : Class := { plain "com/example/osprey/osprey/transform/RepertoireHoldsOnlyAsReferencePinLaw" (some 0) with
  accessFlags := 49
  interfaces := #[]
  cf := some (fileOf pool1 24 #[] #[{ accessFlags := 1, nameIndex := 5, descriptorIndex := 6, attributes := #[] }, { accessFlags := 9, nameIndex := 31, descriptorIndex := 32, attributes := #[] }, { accessFlags := 10, nameIndex := 27, descriptorIndex := 28, attributes := #[] }] 49 2 #[] #[])
  fields := #[]
  methods := #[k1m0, k1m1, k1m2]
  instanceTypes := #[]
  staticTypes := #[]
  resolved := Array.replicate 36 none
  statics := none }

def pool2 : Array CpInfo := pool [(1, .class_ 2), (0, u "java/lang/constant/Constable"), (0, .class_ 4), (0, u "java/lang/Object")] 6

/-- java/lang/constant/Constable -/
def k2 : Class := { plain "java/lang/constant/Constable" (some 0) with
  accessFlags := 1537
  interfaces := #[]
  cf := some (fileOf pool2 1 #[] #[] 1537 3 #[] #[])
  fields := #[]
  methods := #[]
  instanceTypes := #[]
  staticTypes := #[]
  resolved := Array.replicate 11 none
  statics := none }

def pool3 : Array CpInfo := pool [(1, .class_ 2), (0, u "java/lang/Comparable"), (0, .class_ 4), (0, u "java/lang/Object")] 7

/-- java/lang/Comparable -/
def k3 : Class := { plain "java/lang/Comparable" (some 0) with
  accessFlags := 1537
  interfaces := #[]
  cf := some (fileOf pool3 1 #[] #[] 1537 3 #[] #[])
  fields := #[]
  methods := #[]
  instanceTypes := #[]
  staticTypes := #[]
  resolved := Array.replicate 12 none
  statics := none }

def pool4 : Array CpInfo := pool [(1, .class_ 2), (0, u "java/io/Serializable"), (0, .class_ 4), (0, u "java/lang/Object")] 2

/-- java/io/Serializable -/
def k4 : Class := { plain "java/io/Serializable" (some 0) with
  accessFlags := 1537
  interfaces := #[]
  cf := some (fileOf pool4 1 #[] #[] 1537 3 #[] #[])
  fields := #[]
  methods := #[]
  instanceTypes := #[]
  staticTypes := #[]
  resolved := Array.replicate 7 none
  statics := none }

def pool5 : Array CpInfo := pool [(2, .class_ 4), (1, u "java/lang/Enum"), (0, u "name"), (0, u "Ljava/lang/String;"), (2, u "ordinal"), (0, u "I"), (1, .class_ 14), (1, u "java/lang/Object"), (4, u "hash"), (86, .class_ 108), (1, u "java/lang/Enum$EnumDesc"), (2, .class_ 112), (0, u "java/lang/constant/Constable"), (0, .class_ 114), (0, u "java/lang/Comparable"), (0, .class_ 116), (0, u "java/io/Serializable")] 87

/-- java/lang/Enum -/
def k5 : Class := { plain "java/lang/Enum" (some 0) with
  accessFlags := 1057
  interfaces := #[2, 3, 4]
  cf := some (fileOf pool5 2 #[.nestMembers #[106]] #[] 1057 12 #[111, 113, 115] #[{ accessFlags := 18, nameIndex := 5, descriptorIndex := 6, attributes := #[] }, { accessFlags := 18, nameIndex := 9, descriptorIndex := 10, attributes := #[] }, { accessFlags := 2, nameIndex := 19, descriptorIndex := 10, attributes := #[] }])
  fields := #[{ name := "name", type := (.object "java/lang/String"), accessFlags := 18, slot := 0, constantValue := 0 }, { name := "ordinal", type := .int, accessFlags := 18, slot := 1, constantValue := 0 }, { name := "hash", type := .int, accessFlags := 2, slot := 2, constantValue := 0 }]
  methods := #[]
  instanceTypes := #[(.object "java/lang/String"), .int, .int]
  staticTypes := #[]
  resolved := Array.replicate 204 none
  statics := none }

def pool6 : Array CpInfo := pool [(1, .class_ 2), (0, u "com/example/osprey/osprey/transform/Repertoire"), (2, u "XML_1_0"), (0, u "Lcom/example/osprey/osprey/transform/Repertoire;"), (0, .fieldref 1 8), (0, .nameAndType 9 6), (0, u "XML_1_1"), (2, u "HTML"), (2, u "$VALUES"), (0, u "[Lcom/example/osprey/osprey/transform/Repertoire;"), (6, .class_ 25), (1, u "java/lang/Enum"), (8, u "version"), (0, u "Ljava/lang/String;"), (2, u "title"), (28, u "(I)Z"), (2, u "holdsOnlyAsReference"), (19, u "NEXT_LINE"), (0, u "I"), (2, u "LINE_SEPARATOR")] 18

def k6c0 : Code := { maxStack := 2, maxLocals := 3, code := prog_103_method_7_code, exceptionTable := #[], attributes := #[] }
def k6m0 : Method := { name := "holdsOnlyAsReference", desc := "(I)Z", sig := { parameters := [.int], returnType := some .boolean }, accessFlags := 0, code := some k6c0 }
/-- com/example/osprey/osprey/transform/Repertoire -/
def k6 : Class := { plain "com/example/osprey/osprey/transform/Repertoire" (some 5) with
  accessFlags := 16432
  interfaces := #[]
  cf := some (fileOf pool6 1 #[] #[{ accessFlags := 0, nameIndex := 70, descriptorIndex := 67, attributes := #[] }] 16432 23 #[] #[{ accessFlags := 16409, nameIndex := 5, descriptorIndex := 6, attributes := #[] }, { accessFlags := 16409, nameIndex := 9, descriptorIndex := 6, attributes := #[] }, { accessFlags := 16409, nameIndex := 12, descriptorIndex := 6, attributes := #[] }, { accessFlags := 26, nameIndex := 90, descriptorIndex := 91, attributes := #[] }, { accessFlags := 26, nameIndex := 94, descriptorIndex := 91, attributes := #[] }, { accessFlags := 18, nameIndex := 34, descriptorIndex := 35, attributes := #[] }, { accessFlags := 18, nameIndex := 38, descriptorIndex := 35, attributes := #[] }, { accessFlags := 4122, nameIndex := 15, descriptorIndex := 16, attributes := #[] }])
  fields := #[{ name := "XML_1_0", type := (.object "com/example/osprey/osprey/transform/Repertoire"), accessFlags := 16409, slot := 0, constantValue := 0 }, { name := "XML_1_1", type := (.object "com/example/osprey/osprey/transform/Repertoire"), accessFlags := 16409, slot := 1, constantValue := 0 }, { name := "HTML", type := (.object "com/example/osprey/osprey/transform/Repertoire"), accessFlags := 16409, slot := 2, constantValue := 0 }, { name := "NEXT_LINE", type := .int, accessFlags := 26, slot := 3, constantValue := 0 }, { name := "LINE_SEPARATOR", type := .int, accessFlags := 26, slot := 4, constantValue := 0 }, { name := "version", type := (.object "java/lang/String"), accessFlags := 18, slot := 3, constantValue := 0 }, { name := "title", type := (.object "java/lang/String"), accessFlags := 18, slot := 4, constantValue := 0 }, { name := "$VALUES", type := (.array (.object "com/example/osprey/osprey/transform/Repertoire")), accessFlags := 4122, slot := 5, constantValue := 0 }]
  methods := #[k6m0]
  instanceTypes := #[(.object "java/lang/String"), .int, .int, (.object "java/lang/String"), (.object "java/lang/String")]
  staticTypes := #[(.object "com/example/osprey/osprey/transform/Repertoire"), (.object "com/example/osprey/osprey/transform/Repertoire"), (.object "com/example/osprey/osprey/transform/Repertoire"), .int, .int, (.array (.object "com/example/osprey/osprey/transform/Repertoire"))]
  resolved := Array.replicate 113 none
  statics := some 0 }

def pool7 : Array CpInfo := pool [(1, u "java/lang/Cloneable"), (0, .class_ 1), (0, u "java/lang/Object"), (0, .class_ 3)] 3

/-- java/lang/Cloneable -/
def k7 : Class := { plain "java/lang/Cloneable" (some 0) with
  accessFlags := 1537
  interfaces := #[]
  cf := some (fileOf pool7 2 #[] #[] 1537 4 #[] #[])
  fields := #[]
  methods := #[]
  instanceTypes := #[]
  staticTypes := #[]
  resolved := Array.replicate 8 none
  statics := none }

/-- the primitive byte -/
def k8 : Class := { plain "byte" none with kind := .primitive 'B', accessFlags := 0x411 }
/-- [B -/
def k9 : Class := { plain "[B" (some 0) with kind := .array 8 .byte, interfaces := #[7, 4], accessFlags := 1041 }

def heap : Heap := #[{ cls := 6, slots := #[.ref 1, .ref 2, .ref 3, .int 0, .int 0, .null], vm := .statics 6 },
  { cls := 6, slots := #[.null, .int 0, .int 0, .null, .null], vm := .none },
  { cls := 6, slots := #[.null, .int 1, .int 0, .null, .null], vm := .none },
  { cls := 6, slots := #[.null, .int 2, .int 0, .null, .null], vm := .none }]
def classes : Array Class := #[k0, k1, k2, k3, k4, k5, k6, k7, k8, k9]
def interned : List (Array UInt16 × Addr) := []
def slotsUsed : Nat := 21
def theMethod : MethodId := ⟨1, 1⟩
def args0 : Array Value := #[.int 5, .int 1, .int 7]
def aboutOver (below : List Frame) : State where
  vm := { classes := classes, interned := interned.toArray }
  heap := heap
  slotsUsed := slotsUsed
  threads := #[{ frames := .invoking theMethod args0 :: below }]
def below0 : List Frame := [.native { method := ⟨0, 0⟩, args := #[] }]
def about1 : State := aboutOver below0
def p0 : Program := .bare "" "" ""
def e0 : Env := launch0.env 0 0 0
theorem w_frames : about1.frames = Frame.invoking theMethod args0 :: below0 := rfl
set_option maxRecDepth 65536 in
theorem w_args : argsFit about1.vm theMethod args0 = true := by decide +kernel
set_option maxRecDepth 65536 in
theorem w_heap : heapFits about1 = true := by decide +kernel
set_option maxRecDepth 65536 in
theorem w_runnable : about1.curStatus? = some .runnable := by decide +kernel
set_option maxRecDepth 65536 in
theorem w_alone : about1.alone = true := by decide +kernel
set_option maxRecDepth 65536 in
theorem w_named : about1.methodNamed? x = some theMethod := by decide +kernel
set_option maxRecDepth 65536 in
theorem w_hears : about1.hears theMethod below0 = true := by decide +kernel
set_option maxRecDepth 65536 in
theorem w_ripe : about1.ripe theMethod args0 below0 = true := by decide +kernel
theorem w_running : about1.status = .running := rfl
set_option maxRecDepth 65536 in
theorem w_room : about1.hasRoom e0.platform room_1 = true :=
  launch0.hasRoom_least _ room_1 (by decide +kernel) (by decide +kernel) (by decide +kernel) (by decide +kernel) (by decide +kernel) (by decide +kernel)
theorem allAtoms_all (ts : List Jvm.Cond) (a : Array Jvm.Value) (st : Jvm.State) : (allAtoms ts).before a st = ts.all (fun c => c.before a st) := by
  induction ts with
  | nil => rfl
  | cons c t ih =>
    show (Jvm.Cond.and c (allAtoms t)).before a st = _
    rw [Jvm.Cond.before_and, ih, List.all_cons]
def words1 : List Jvm.Cond := Jvm.Cond.code x code maxLocals ret :: tables_1
/-- a 'code' word, met by the world's own term for the bytes: nothing is compared byte by byte -/
theorem code_word {y : MethodName} {bytes : ByteArray} {mx : Nat} {rt : Option FieldType} {a : Array Value} {s : State} {m : MethodId} {meth : Method} {c : Code} (h1 : s.methodNamed? y = some m) (h2 : s.vm.method? m = some meth) (h3 : meth.code = some c) (h4 : c.code = bytes)
    (h5 : (c.maxLocals == mx && c.exceptionTable.isEmpty && decide (c.maxStack ≤ mostOperands) && decide (meth.sig.returnType = rt) && !meth.locks && decide (parseMethodDescriptor y.desc = some meth.sig)) = true) : (Jvm.Cond.code y bytes mx rt).before a s = true := by
  simp only [Bool.and_eq_true, beq_iff_eq, Bool.not_eq_true', decide_eq_true_eq] at h5
  obtain ⟨⟨⟨⟨⟨g1, g2⟩, g3⟩, g4⟩, g5⟩, g6⟩ := h5
  simp [Cond.before, Cond.holds, Cond.value, h1, h2, h3, h4, g1, g2, g3, g4, g5, g6]
def isCode : Jvm.Cond → Bool
  | .code _ _ _ _ => true
  | _ => false
theorem all_split {L : List Jvm.Cond} {P : Jvm.Cond → Bool} (h1 : L.all (fun c => isCode c || P c) = true) (h2 : ∀ c ∈ L.filter isCode, P c = true) : L.all P = true := by
  refine List.all_eq_true.mpr fun c hc => ?_
  have h := List.all_eq_true.mp h1 c hc
  rcases Bool.eq_false_or_eq_true (isCode c) with hi | hi
  · exact h2 c (List.mem_filter.mpr ⟨hc, hi⟩)
  · simpa [hi] using h
set_option maxRecDepth 65536 in
theorem w_c0 : (Jvm.Cond.code x code maxLocals ret).before args0 about1 = true := code_word (m := ⟨1, 1⟩) (meth := k1m1) (c := k1c1) (by decide +kernel) rfl rfl rfl (by decide +kernel)
set_option maxRecDepth 65536 in
theorem w_c1 : (Jvm.Cond.code ({ cls := "com/example/osprey/osprey/transform/Repertoire", name := "holdsOnlyAsReference", desc := "(I)Z" } : Jvm.MethodName) prog_103_method_7_code (3 : Nat) (Option.some Jvm.ClassFile.FieldType.boolean)).before args0 about1 = true := code_word (m := ⟨6, 0⟩) (meth := k6m0) (c := k6c0) (by decide +kernel) rfl rfl rfl (by decide +kernel)
set_option maxRecDepth 65536 in
theorem w_c2 : (Jvm.Cond.code ({ cls := "com/example/osprey/osprey/transform/RepertoireHoldsOnlyAsReferencePinLaw", name := "ref", desc := "(II)Z" } : Jvm.MethodName) method_3_code (2 : Nat) (Option.some Jvm.ClassFile.FieldType.boolean)).before args0 about1 = true := code_word (m := ⟨1, 2⟩) (meth := k1m2) (c := k1c2) (by decide +kernel) rfl rfl rfl (by decide +kernel)
def codes1 : List Jvm.Cond := [Jvm.Cond.code x code maxLocals ret, Jvm.Cond.code ({ cls := "com/example/osprey/osprey/transform/Repertoire", name := "holdsOnlyAsReference", desc := "(I)Z" } : Jvm.MethodName) prog_103_method_7_code (3 : Nat) (Option.some Jvm.ClassFile.FieldType.boolean), Jvm.Cond.code ({ cls := "com/example/osprey/osprey/transform/RepertoireHoldsOnlyAsReferencePinLaw", name := "ref", desc := "(II)Z" } : Jvm.MethodName) method_3_code (2 : Nat) (Option.some Jvm.ClassFile.FieldType.boolean)]
set_option maxRecDepth 65536 in
theorem codes_eq : words1.filter isCode = codes1 := rfl
theorem w_codes : ∀ c ∈ words1.filter isCode, c.before args0 about1 = true := by
  rw [codes_eq]
  intro c hc
  simp only [codes1, List.mem_cons, List.not_mem_nil, or_false] at hc
  rcases hc with rfl | rfl | rfl
  · exact w_c0
  · exact w_c1
  · exact w_c2
set_option maxRecDepth 65536 in
theorem w_t1 : words1.all (fun c => isCode c || c.before args0 about1) = true := by decide +kernel
theorem w_tables : (allAtoms (Jvm.Cond.code x code maxLocals ret :: tables_1)).before args0 about1 = true := by
  rw [allAtoms_all]
  show words1.all (fun c => c.before args0 about1) = true
  refine all_split ?_ w_codes
  rw [w_t1]
set_option maxRecDepth 65536 in
theorem w_case : (Jvm.Cond.and given_1 narrow_1).before args0 about1 = true := by decide +kernel
theorem w_applies : (headSpec (Jvm.Cond.code x code maxLocals ret :: tables_1) room_1).applies x e0.platform about1 = true :=
  (Spec.applies_iff w_frames).mpr ⟨w_running, w_runnable, w_alone, w_named, w_hears, w_ripe, w_room, w_tables⟩
theorem atStart : AtStart classFile x code maxLocals ret World_1 tables_1 room_1 Calls_1 rest_1 Pre_1 launch0 p0 e0 about1 theMethod args0 below0 :=
  ⟨lists_1, trivial, launch0.admits_env _ _ _, launch0.least_env, fairChoices_fair.cas, fairChoices_fair.clock, w_frames, w_args, w_heap, w_applies, trivial, trivial, w_case⟩
end start1
theorem witness_1 : WitnessClaimed_1 := ⟨start1.p0, start1.e0, start1.about1, start1.theMethod, start1.args0, start1.below0, start1.atStart⟩
end Jvm.Pilot.@@N@@
