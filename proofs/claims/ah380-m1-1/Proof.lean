import JvmDerived
import JvmDerived.Pilot.@@N@@Statement
import JvmDerived.Pilot.@@N@@Code
set_option linter.unusedVariables false
set_option linter.unusedSimpArgs false
namespace Jvm.Pilot.@@N@@
open Jvm Jvm.ClassFile Sem Op Lib Jvm.Free Jvm.Stand Jvm.LawKit Jvm.RoadKit Bundle Jvm.Pilot.@@N@@.Jvm.D
/-- from the state U the run comes to the method's end, where Q holds of what it returns, of the heap and of the places written -/
def Dn (p : Program) (e : Env) (below : List Frame) (s : State) (k n : Nat) (Q : Option Value → Heap → List Loc → Prop) (U : State) : Prop :=
  ∃ t o, Steps p.tables e below U t ∧ t.status = .running ∧ Ended t below o ∧ ∃ v L, o = .returned v ∧ Q v t.heap L ∧ FrameEnd s o t L k n
theorem Dn.by {p : Program} {e : Env} {below : List Frame} {s : State} {k n : Nat} {Q : Option Value → Heap → List Loc → Prop} {U U' : State} (st : ∀ t, Steps p.tables e below U' t → Steps p.tables e below U t) (h : Dn p e below s k n Q U') : Dn p e below s k n Q U := by
  obtain ⟨t, o, h1, h2⟩ := h
  exact ⟨t, o, st t h1, h2⟩
theorem Dn.out {p : Program} {l : Launch} {e : Env} {R : Room} {s : State} {m : MethodId} {args : Array Value} {below : List Frame} {meth : Method} {c : Code} {T : State} {locs : List Loc} {cells slots k n : Nat} {Q : Option Value → Heap → List Loc → Prop} {U : State} (X : Stand p l e R s m args below meth c T locs cells slots) {v : Option Value} (hv : meth.sig.returnType = none → v = none) (hlk : meth.locks = false)
    (st : ∀ fs, (∀ (f : JFrame) (acts : List Action), f.method = m → f.locked = none → f.entered = [] → (doReturn e (T.setTop f) acts v).1 = T.setFrames fs) → Steps p.tables e below U (T.setFrames fs)) (hk : cells ≤ k) (hn : slots ≤ n) (hQ : Q v T.heap locs) : Dn p e below s k n Q U := by
  obtain ⟨fs, hr, hrun, hended, hW, hsame⟩ := X.leave (v := v) hv hlk
  exact ⟨_, _, st fs hr, hrun, hended, v, locs, rfl, hQ, ⟨_, rfl⟩, hW, hsame.mono hk hn⟩
theorem pn0 : plainName "com/example/osprey/osprey/pointer/FifthEdition" = true := by first | (simp [plainName, overriddenIn]; done) | decide +kernel
theorem pn1 : plainName "com/example/osprey/osprey/pointer/FifthEditionIsNameStartCharPinLaw" = true := by first | (simp [plainName, overriddenIn]; done) | decide +kernel
theorem pd0 : parseMethodDescriptor "(I)Z" = some ⟨[.int], some .boolean⟩ := by decide +kernel
theorem d1_0 : decode prog_59_method_7_code 0 = .ok (.iload_n 0, 1) := by decide +kernel
theorem d1_1 : decode prog_59_method_7_code 1 = .ok (.bipush 58, 2) := by decide +kernel
theorem d1_3 : decode prog_59_method_7_code 3 = .ok (.if_icmp .eq 194, 3) := by decide +kernel
theorem d1_6 : decode prog_59_method_7_code 6 = .ok (.iload_n 0, 1) := by decide +kernel
theorem d1_7 : decode prog_59_method_7_code 7 = .ok (.bipush 65, 2) := by decide +kernel
theorem d1_9 : decode prog_59_method_7_code 9 = .ok (.if_icmp .lt 9, 3) := by decide +kernel
theorem d1_12 : decode prog_59_method_7_code 12 = .ok (.iload_n 0, 1) := by decide +kernel
theorem d1_13 : decode prog_59_method_7_code 13 = .ok (.bipush 90, 2) := by decide +kernel
theorem d1_15 : decode prog_59_method_7_code 15 = .ok (.if_icmp .le 182, 3) := by decide +kernel
theorem d1_18 : decode prog_59_method_7_code 18 = .ok (.iload_n 0, 1) := by decide +kernel
theorem d1_19 : decode prog_59_method_7_code 19 = .ok (.bipush 95, 2) := by decide +kernel
theorem d1_21 : decode prog_59_method_7_code 21 = .ok (.if_icmp .eq 176, 3) := by decide +kernel
theorem d1_24 : decode prog_59_method_7_code 24 = .ok (.iload_n 0, 1) := by decide +kernel
theorem d1_25 : decode prog_59_method_7_code 25 = .ok (.bipush 97, 2) := by decide +kernel
theorem d1_27 : decode prog_59_method_7_code 27 = .ok (.if_icmp .lt 9, 3) := by decide +kernel
theorem d1_30 : decode prog_59_method_7_code 30 = .ok (.iload_n 0, 1) := by decide +kernel
theorem d1_31 : decode prog_59_method_7_code 31 = .ok (.bipush 122, 2) := by decide +kernel
theorem d1_33 : decode prog_59_method_7_code 33 = .ok (.if_icmp .le 164, 3) := by decide +kernel
theorem d1_36 : decode prog_59_method_7_code 36 = .ok (.iload_n 0, 1) := by decide +kernel
theorem d1_37 : decode prog_59_method_7_code 37 = .ok (.sipush 192, 3) := by decide +kernel
theorem d1_40 : decode prog_59_method_7_code 40 = .ok (.if_icmp .lt 10, 3) := by decide +kernel
theorem d1_43 : decode prog_59_method_7_code 43 = .ok (.iload_n 0, 1) := by decide +kernel
theorem d1_44 : decode prog_59_method_7_code 44 = .ok (.sipush 214, 3) := by decide +kernel
theorem d1_47 : decode prog_59_method_7_code 47 = .ok (.if_icmp .le 150, 3) := by decide +kernel
theorem d1_50 : decode prog_59_method_7_code 50 = .ok (.iload_n 0, 1) := by decide +kernel
theorem d1_51 : decode prog_59_method_7_code 51 = .ok (.sipush 216, 3) := by decide +kernel
theorem d1_54 : decode prog_59_method_7_code 54 = .ok (.if_icmp .lt 10, 3) := by decide +kernel
theorem d1_57 : decode prog_59_method_7_code 57 = .ok (.iload_n 0, 1) := by decide +kernel
theorem d1_58 : decode prog_59_method_7_code 58 = .ok (.sipush 246, 3) := by decide +kernel
theorem d1_61 : decode prog_59_method_7_code 61 = .ok (.if_icmp .le 136, 3) := by decide +kernel
theorem d1_64 : decode prog_59_method_7_code 64 = .ok (.iload_n 0, 1) := by decide +kernel
theorem d1_65 : decode prog_59_method_7_code 65 = .ok (.sipush 248, 3) := by decide +kernel
theorem d1_68 : decode prog_59_method_7_code 68 = .ok (.if_icmp .lt 10, 3) := by decide +kernel
theorem d1_71 : decode prog_59_method_7_code 71 = .ok (.iload_n 0, 1) := by decide +kernel
theorem d1_72 : decode prog_59_method_7_code 72 = .ok (.sipush 767, 3) := by decide +kernel
theorem d1_75 : decode prog_59_method_7_code 75 = .ok (.if_icmp .le 122, 3) := by decide +kernel
theorem d1_78 : decode prog_59_method_7_code 78 = .ok (.iload_n 0, 1) := by decide +kernel
theorem d1_79 : decode prog_59_method_7_code 79 = .ok (.sipush 880, 3) := by decide +kernel
theorem d1_82 : decode prog_59_method_7_code 82 = .ok (.if_icmp .lt 10, 3) := by decide +kernel
theorem d1_85 : decode prog_59_method_7_code 85 = .ok (.iload_n 0, 1) := by decide +kernel
theorem d1_86 : decode prog_59_method_7_code 86 = .ok (.sipush 893, 3) := by decide +kernel
theorem d1_89 : decode prog_59_method_7_code 89 = .ok (.if_icmp .le 108, 3) := by decide +kernel
theorem d1_92 : decode prog_59_method_7_code 92 = .ok (.iload_n 0, 1) := by decide +kernel
theorem d1_93 : decode prog_59_method_7_code 93 = .ok (.sipush 895, 3) := by decide +kernel
theorem d1_96 : decode prog_59_method_7_code 96 = .ok (.if_icmp .lt 10, 3) := by decide +kernel
theorem d1_99 : decode prog_59_method_7_code 99 = .ok (.iload_n 0, 1) := by decide +kernel
theorem d1_100 : decode prog_59_method_7_code 100 = .ok (.sipush 8191, 3) := by decide +kernel
theorem d1_103 : decode prog_59_method_7_code 103 = .ok (.if_icmp .le 94, 3) := by decide +kernel
theorem d1_106 : decode prog_59_method_7_code 106 = .ok (.iload_n 0, 1) := by decide +kernel
theorem d1_107 : decode prog_59_method_7_code 107 = .ok (.sipush 8204, 3) := by decide +kernel
theorem d1_110 : decode prog_59_method_7_code 110 = .ok (.if_icmp .lt 10, 3) := by decide +kernel
theorem d1_113 : decode prog_59_method_7_code 113 = .ok (.iload_n 0, 1) := by decide +kernel
theorem d1_114 : decode prog_59_method_7_code 114 = .ok (.sipush 8205, 3) := by decide +kernel
theorem d1_117 : decode prog_59_method_7_code 117 = .ok (.if_icmp .le 80, 3) := by decide +kernel
theorem d1_120 : decode prog_59_method_7_code 120 = .ok (.iload_n 0, 1) := by decide +kernel
theorem d1_121 : decode prog_59_method_7_code 121 = .ok (.sipush 8304, 3) := by decide +kernel
theorem d1_124 : decode prog_59_method_7_code 124 = .ok (.if_icmp .lt 10, 3) := by decide +kernel
theorem d1_127 : decode prog_59_method_7_code 127 = .ok (.iload_n 0, 1) := by decide +kernel
theorem d1_128 : decode prog_59_method_7_code 128 = .ok (.sipush 8591, 3) := by decide +kernel
theorem d1_131 : decode prog_59_method_7_code 131 = .ok (.if_icmp .le 66, 3) := by decide +kernel
theorem d1_134 : decode prog_59_method_7_code 134 = .ok (.iload_n 0, 1) := by decide +kernel
theorem d1_135 : decode prog_59_method_7_code 135 = .ok (.sipush 11264, 3) := by decide +kernel
theorem d1_138 : decode prog_59_method_7_code 138 = .ok (.if_icmp .lt 10, 3) := by decide +kernel
theorem d1_141 : decode prog_59_method_7_code 141 = .ok (.iload_n 0, 1) := by decide +kernel
theorem d1_142 : decode prog_59_method_7_code 142 = .ok (.sipush 12271, 3) := by decide +kernel
theorem d1_145 : decode prog_59_method_7_code 145 = .ok (.if_icmp .le 52, 3) := by decide +kernel
theorem d1_148 : decode prog_59_method_7_code 148 = .ok (.iload_n 0, 1) := by decide +kernel
theorem d1_149 : decode prog_59_method_7_code 149 = .ok (.sipush 12289, 3) := by decide +kernel
theorem d1_152 : decode prog_59_method_7_code 152 = .ok (.if_icmp .lt 9, 3) := by decide +kernel
theorem d1_155 : decode prog_59_method_7_code 155 = .ok (.iload_n 0, 1) := by decide +kernel
theorem d1_156 : decode prog_59_method_7_code 156 = .ok (.ldc 42, 2) := by decide +kernel
theorem d1_158 : decode prog_59_method_7_code 158 = .ok (.if_icmp .le 39, 3) := by decide +kernel
theorem d1_161 : decode prog_59_method_7_code 161 = .ok (.iload_n 0, 1) := by decide +kernel
theorem d1_162 : decode prog_59_method_7_code 162 = .ok (.ldc 43, 2) := by decide +kernel
theorem d1_164 : decode prog_59_method_7_code 164 = .ok (.if_icmp .lt 9, 3) := by decide +kernel
theorem d1_167 : decode prog_59_method_7_code 167 = .ok (.iload_n 0, 1) := by decide +kernel
theorem d1_168 : decode prog_59_method_7_code 168 = .ok (.ldc 44, 2) := by decide +kernel
theorem d1_170 : decode prog_59_method_7_code 170 = .ok (.if_icmp .le 27, 3) := by decide +kernel
theorem d1_173 : decode prog_59_method_7_code 173 = .ok (.iload_n 0, 1) := by decide +kernel
theorem d1_174 : decode prog_59_method_7_code 174 = .ok (.ldc 45, 2) := by decide +kernel
theorem d1_176 : decode prog_59_method_7_code 176 = .ok (.if_icmp .lt 9, 3) := by decide +kernel
theorem d1_179 : decode prog_59_method_7_code 179 = .ok (.iload_n 0, 1) := by decide +kernel
theorem d1_180 : decode prog_59_method_7_code 180 = .ok (.ldc 46, 2) := by decide +kernel
theorem d1_182 : decode prog_59_method_7_code 182 = .ok (.if_icmp .le 15, 3) := by decide +kernel
theorem d1_185 : decode prog_59_method_7_code 185 = .ok (.iload_n 0, 1) := by decide +kernel
theorem d1_186 : decode prog_59_method_7_code 186 = .ok (.ldc 47, 2) := by decide +kernel
theorem d1_188 : decode prog_59_method_7_code 188 = .ok (.if_icmp .lt 13, 3) := by decide +kernel
theorem d1_191 : decode prog_59_method_7_code 191 = .ok (.iload_n 0, 1) := by decide +kernel
theorem d1_192 : decode prog_59_method_7_code 192 = .ok (.ldc 48, 2) := by decide +kernel
theorem d1_194 : decode prog_59_method_7_code 194 = .ok (.if_icmp .gt 7, 3) := by decide +kernel
theorem d1_197 : decode prog_59_method_7_code 197 = .ok (.iconst 1, 1) := by decide +kernel
theorem d1_198 : decode prog_59_method_7_code 198 = .ok (.goto 4, 3) := by decide +kernel
theorem d1_201 : decode prog_59_method_7_code 201 = .ok (.iconst 0, 1) := by decide +kernel
theorem d1_202 : decode prog_59_method_7_code 202 = .ok (.ireturn, 1) := by decide +kernel
def inS (p : Int32) : Prop := (58 ≤ p.toInt ∧ p.toInt ≤ 58) ∨ (65 ≤ p.toInt ∧ p.toInt ≤ 90) ∨ (95 ≤ p.toInt ∧ p.toInt ≤ 95) ∨ (97 ≤ p.toInt ∧ p.toInt ≤ 122) ∨ (192 ≤ p.toInt ∧ p.toInt ≤ 214) ∨ (216 ≤ p.toInt ∧ p.toInt ≤ 246) ∨ (248 ≤ p.toInt ∧ p.toInt ≤ 767) ∨ (880 ≤ p.toInt ∧ p.toInt ≤ 893) ∨ (895 ≤ p.toInt ∧ p.toInt ≤ 8191) ∨ (8204 ≤ p.toInt ∧ p.toInt ≤ 8205) ∨ (8304 ≤ p.toInt ∧ p.toInt ≤ 8591) ∨ (11264 ≤ p.toInt ∧ p.toInt ≤ 12271) ∨ (12289 ≤ p.toInt ∧ p.toInt ≤ 55295) ∨ (63744 ≤ p.toInt ∧ p.toInt ≤ 64975) ∨ (65008 ≤ p.toInt ∧ p.toInt ≤ 65533) ∨ (65536 ≤ p.toInt ∧ p.toInt ≤ 983039)
instance (p : Int32) : Decidable (inS p) := by unfold inS; exact inferInstance
def isN (p : Int32) : Int32 := if inS p then 1 else 0
abbrev Rm1 : Room := { frames := 0, cells := 0, slots := 0, locals := 0 }
theorem ef_1 (m : MethodId) (p0 : Int32) : entryFrame m #[(.int p0)] 1 = mkF m 0 #[.val (.int p0)] [] := by first | (simp [entryFrame, mkF, argsToLocals, Value.category]; done) | rfl
def Q1 (Z : State) (p0 : Int32) (h0 : Heap) (n0 : Nat) (v : Option Value) (h : Heap) (L : List Loc) : Prop := v = some (.int (isN p0)) ∧ Fr n0 L ∧ h = h0
set_option maxRecDepth 65536 in
set_option maxHeartbeats 40000000 in
theorem rm1 (l : Launch) (Z : State) (a0 : Array Value) (hw : ∀ d ∈ tables_1, d.before a0 Z = true) (ws : List Jvm.Cond) (p0 : Int32) (h0 : Heap) (n0 : Nat) (Z0 : n0 ≤ h0.size)  :
    MetFree l (⟨"com/example/osprey/osprey/pointer/FifthEdition", "isNameStartChar", "(I)Z"⟩ : MethodName) (head1 (Jvm.Cond.code (⟨"com/example/osprey/osprey/pointer/FifthEdition", "isNameStartChar", "(I)Z"⟩ : MethodName) prog_59_method_7_code 1 (some .boolean) :: ws) Rm1) (fun a U => a = #[(.int p0)] ∧ Z.Warmed39 U.vm ∧ U.heap = h0) (fun _ _ _ _ _ => True) (fun _ U o U' => ∃ v L, o = .returned v ∧ Q1 Z p0 h0 n0 v U'.heap L ∧ FrameEnd U o U' L Rm1.cells Rm1.slots) := by
  refine MetFree.of_bodySF (plainFor_of_name pn0) hisR ?_
  intro p e s m args below meth c s₁ Bd hml0 hP hK
  obtain ⟨rfl, hZ, hh⟩ := hP
  have hx := Bd.exec
  have hby := Bd.bytes
  have hml : c.maxLocals = 1 := hml0
  have hown : s.vm.findClass "com/example/osprey/osprey/pointer/FifthEdition" = some m.cls := findClass_of_methodNamed Bd.named
  have hnm := (name_of_methodNamed Bd.named Bd.method).1
  have X0 : Stand p l e Rm1 s m #[(.int p0)] below meth c s₁ [] 0 0 := Stand.of_body Bd
  have e0 : s₁.heap = h0 := by rw [← hh, Bd.state]; rfl
  have N0 := Fr.nil n0
  show Dn p e below s Rm1.cells Rm1.slots (Q1 Z p0 h0 n0) (s₁.setTop (entryFrame m #[(.int p0)] 1))
  rw [ef_1]
  have J185 : ∀ (hJ : ¬ ((58 ≤ p0.toInt ∧ p0.toInt ≤ 58) ∨ (65 ≤ p0.toInt ∧ p0.toInt ≤ 90) ∨ (95 ≤ p0.toInt ∧ p0.toInt ≤ 95) ∨ (97 ≤ p0.toInt ∧ p0.toInt ≤ 122) ∨ (192 ≤ p0.toInt ∧ p0.toInt ≤ 214) ∨ (216 ≤ p0.toInt ∧ p0.toInt ≤ 246) ∨ (248 ≤ p0.toInt ∧ p0.toInt ≤ 767) ∨ (880 ≤ p0.toInt ∧ p0.toInt ≤ 893) ∨ (895 ≤ p0.toInt ∧ p0.toInt ≤ 8191) ∨ (8204 ≤ p0.toInt ∧ p0.toInt ≤ 8205) ∨ (8304 ≤ p0.toInt ∧ p0.toInt ≤ 8591) ∨ (11264 ≤ p0.toInt ∧ p0.toInt ≤ 12271) ∨ (12289 ≤ p0.toInt ∧ p0.toInt ≤ 55295) ∨ (63744 ≤ p0.toInt ∧ p0.toInt ≤ 64975) ∨ (65008 ≤ p0.toInt ∧ p0.toInt ≤ 65533))), Dn p e below s Rm1.cells Rm1.slots (Q1 Z p0 h0 n0) (s₁.setTop (mkF m 185 #[.val (.int p0)] [])) := by
    intro hJ
    refine Dn.by (U' := s₁.setTop (mkF m 186 #[.val (.int p0)] [(.int p0)])) (fun _ ks => XS.iloadN X0.here hx rfl (hb hby d1_185) rfl ks) ?_
    refine Dn.by (U' := s₁.setTop (mkF m 188 #[.val (.int p0)] [(.int (65536 : Int32)), (.int p0)])) (X0.ldcInt hx hown (mvT hZ (hw _ (List.mem_of_getElem? (i := 41) rfl))) (g := (mkF m 186 #[.val (.int p0)] [(.int p0)])) rfl (hb hby d1_186)) ?_
    by_cases c188_1 : p0 < (65536 : Int32)
    ·
      refine Dn.by (U' := s₁.setTop (mkF m 201 #[.val (.int p0)] [])) (fun _ ks => XS.icmpYes X0.here hx rfl (pc0 := 188) (pc' := 201) rfl (hb hby d1_188) rfl (tlt c188_1).1 (by decide) (by decide) ks) ?_
      refine Dn.by (U' := s₁.setTop (mkF m 202 #[.val (.int p0)] [(.int (0 : Int32))])) (fun _ ks => XS.iconst X0.here hx rfl (hb hby d1_201)  ks) ?_
      have hin : ¬ inS p0 := by
        unfold inS
        have u0 := Int32.lt_iff_toInt_lt.mp c188_1
        have u1 := rng32 p0
        have u2 := (by decide : (65536 : Int32).toInt = 65536)
        omega
      refine Dn.out X0 (v := (some (.int (0 : Int32)))) (fun h => by rw [Bd.returns] at h; cases h) (BodyLoose.notSynchronized Bd) (fun _ hr => retN X0 hx (t := .boolean) Bd.returns (by simp) (hb hby d1_202) hr) (by decide) (by decide) ?_
      rw [e0]
      exact ⟨by simp only [isN, if_neg hin], N0, rfl⟩
    ·
      refine Dn.by (U' := s₁.setTop (mkF m 191 #[.val (.int p0)] [])) (fun _ ks => XS.icmpNo X0.here hx rfl (hb hby d1_188) rfl (flt c188_1).1 ks) ?_
      refine Dn.by (U' := s₁.setTop (mkF m 192 #[.val (.int p0)] [(.int p0)])) (fun _ ks => XS.iloadN X0.here hx rfl (hb hby d1_191) rfl ks) ?_
      refine Dn.by (U' := s₁.setTop (mkF m 194 #[.val (.int p0)] [(.int (983039 : Int32)), (.int p0)])) (X0.ldcInt hx hown (mvT hZ (hw _ (List.mem_of_getElem? (i := 43) rfl))) (g := (mkF m 192 #[.val (.int p0)] [(.int p0)])) rfl (hb hby d1_192)) ?_
      by_cases c194_2 : (983039 : Int32) < p0
      ·
        refine Dn.by (U' := s₁.setTop (mkF m 201 #[.val (.int p0)] [])) (fun _ ks => XS.icmpYes X0.here hx rfl (pc0 := 194) (pc' := 201) rfl (hb hby d1_194) rfl (tlt c194_2).2.2.1 (by decide) (by decide) ks) ?_
        refine Dn.by (U' := s₁.setTop (mkF m 202 #[.val (.int p0)] [(.int (0 : Int32))])) (fun _ ks => XS.iconst X0.here hx rfl (hb hby d1_201)  ks) ?_
        have hin : ¬ inS p0 := by
          unfold inS
          have u0 : ¬ p0.toInt < (65536 : Int32).toInt := fun q => c188_1 (Int32.lt_iff_toInt_lt.mpr q)
          have u1 := Int32.lt_iff_toInt_lt.mp c194_2
          have u2 := rng32 p0
          have u3 := (by decide : (65536 : Int32).toInt = 65536)
          have u4 := (by decide : (983039 : Int32).toInt = 983039)
          omega
        refine Dn.out X0 (v := (some (.int (0 : Int32)))) (fun h => by rw [Bd.returns] at h; cases h) (BodyLoose.notSynchronized Bd) (fun _ hr => retN X0 hx (t := .boolean) Bd.returns (by simp) (hb hby d1_202) hr) (by decide) (by decide) ?_
        rw [e0]
        exact ⟨by simp only [isN, if_neg hin], N0, rfl⟩
      ·
        refine Dn.by (U' := s₁.setTop (mkF m 197 #[.val (.int p0)] [])) (fun _ ks => XS.icmpNo X0.here hx rfl (hb hby d1_194) rfl (flt c194_2).2.2.1 ks) ?_
        refine Dn.by (U' := s₁.setTop (mkF m 198 #[.val (.int p0)] [(.int (1 : Int32))])) (fun _ ks => XS.iconst X0.here hx rfl (hb hby d1_197)  ks) ?_
        refine Dn.by (U' := s₁.setTop (mkF m 202 #[.val (.int p0)] [(.int (1 : Int32))])) (fun _ ks => XS.goto X0.here hx rfl (pc0 := 198) (pc' := 202) rfl (hb hby d1_198) (by decide) (by decide) ks) ?_
        have hin : inS p0 := by
          unfold inS
          have u0 : ¬ p0.toInt < (65536 : Int32).toInt := fun q => c188_1 (Int32.lt_iff_toInt_lt.mpr q)
          have u1 : ¬ (983039 : Int32).toInt < p0.toInt := fun q => c194_2 (Int32.lt_iff_toInt_lt.mpr q)
          have u2 := rng32 p0
          have u3 := (by decide : (65536 : Int32).toInt = 65536)
          have u4 := (by decide : (983039 : Int32).toInt = 983039)
          omega
        refine Dn.out X0 (v := (some (.int (1 : Int32)))) (fun h => by rw [Bd.returns] at h; cases h) (BodyLoose.notSynchronized Bd) (fun _ hr => retN X0 hx (t := .boolean) Bd.returns (by simp) (hb hby d1_202) hr) (by decide) (by decide) ?_
        rw [e0]
        exact ⟨by simp only [isN, if_pos hin], N0, rfl⟩
  have J173 : ∀ (hJ : ¬ ((58 ≤ p0.toInt ∧ p0.toInt ≤ 58) ∨ (65 ≤ p0.toInt ∧ p0.toInt ≤ 90) ∨ (95 ≤ p0.toInt ∧ p0.toInt ≤ 95) ∨ (97 ≤ p0.toInt ∧ p0.toInt ≤ 122) ∨ (192 ≤ p0.toInt ∧ p0.toInt ≤ 214) ∨ (216 ≤ p0.toInt ∧ p0.toInt ≤ 246) ∨ (248 ≤ p0.toInt ∧ p0.toInt ≤ 767) ∨ (880 ≤ p0.toInt ∧ p0.toInt ≤ 893) ∨ (895 ≤ p0.toInt ∧ p0.toInt ≤ 8191) ∨ (8204 ≤ p0.toInt ∧ p0.toInt ≤ 8205) ∨ (8304 ≤ p0.toInt ∧ p0.toInt ≤ 8591) ∨ (11264 ≤ p0.toInt ∧ p0.toInt ≤ 12271) ∨ (12289 ≤ p0.toInt ∧ p0.toInt ≤ 55295) ∨ (63744 ≤ p0.toInt ∧ p0.toInt ≤ 64975))), Dn p e below s Rm1.cells Rm1.slots (Q1 Z p0 h0 n0) (s₁.setTop (mkF m 173 #[.val (.int p0)] [])) := by
    intro hJ
    refine Dn.by (U' := s₁.setTop (mkF m 174 #[.val (.int p0)] [(.int p0)])) (fun _ ks => XS.iloadN X0.here hx rfl (hb hby d1_173) rfl ks) ?_
    refine Dn.by (U' := s₁.setTop (mkF m 176 #[.val (.int p0)] [(.int (65008 : Int32)), (.int p0)])) (X0.ldcInt hx hown (mvT hZ (hw _ (List.mem_of_getElem? (i := 40) rfl))) (g := (mkF m 174 #[.val (.int p0)] [(.int p0)])) rfl (hb hby d1_174)) ?_
    by_cases c176_3 : p0 < (65008 : Int32)
    ·
      refine Dn.by (U' := s₁.setTop (mkF m 185 #[.val (.int p0)] [])) (fun _ ks => XS.icmpYes X0.here hx rfl (pc0 := 176) (pc' := 185) rfl (hb hby d1_176) rfl (tlt c176_3).1 (by decide) (by decide) ks) ?_
      refine J185 ?_
      have u0 := Int32.lt_iff_toInt_lt.mp c176_3
      have u1 := rng32 p0
      have u2 := (by decide : (65008 : Int32).toInt = 65008)
      omega
    ·
      refine Dn.by (U' := s₁.setTop (mkF m 179 #[.val (.int p0)] [])) (fun _ ks => XS.icmpNo X0.here hx rfl (hb hby d1_176) rfl (flt c176_3).1 ks) ?_
      refine Dn.by (U' := s₁.setTop (mkF m 180 #[.val (.int p0)] [(.int p0)])) (fun _ ks => XS.iloadN X0.here hx rfl (hb hby d1_179) rfl ks) ?_
      refine Dn.by (U' := s₁.setTop (mkF m 182 #[.val (.int p0)] [(.int (65533 : Int32)), (.int p0)])) (X0.ldcInt hx hown (mvT hZ (hw _ (List.mem_of_getElem? (i := 42) rfl))) (g := (mkF m 180 #[.val (.int p0)] [(.int p0)])) rfl (hb hby d1_180)) ?_
      by_cases c182_4 : (65533 : Int32) < p0
      ·
        refine Dn.by (U' := s₁.setTop (mkF m 185 #[.val (.int p0)] [])) (fun _ ks => XS.icmpNo X0.here hx rfl (hb hby d1_182) rfl (tlt c182_4).2.2.2 ks) ?_
        refine J185 ?_
        have u0 : ¬ p0.toInt < (65008 : Int32).toInt := fun q => c176_3 (Int32.lt_iff_toInt_lt.mpr q)
        have u1 := Int32.lt_iff_toInt_lt.mp c182_4
        have u2 := rng32 p0
        have u3 := (by decide : (65008 : Int32).toInt = 65008)
        have u4 := (by decide : (65533 : Int32).toInt = 65533)
        omega
      ·
        refine Dn.by (U' := s₁.setTop (mkF m 197 #[.val (.int p0)] [])) (fun _ ks => XS.icmpYes X0.here hx rfl (pc0 := 182) (pc' := 197) rfl (hb hby d1_182) rfl (flt c182_4).2.2.2 (by decide) (by decide) ks) ?_
        refine Dn.by (U' := s₁.setTop (mkF m 198 #[.val (.int p0)] [(.int (1 : Int32))])) (fun _ ks => XS.iconst X0.here hx rfl (hb hby d1_197)  ks) ?_
        refine Dn.by (U' := s₁.setTop (mkF m 202 #[.val (.int p0)] [(.int (1 : Int32))])) (fun _ ks => XS.goto X0.here hx rfl (pc0 := 198) (pc' := 202) rfl (hb hby d1_198) (by decide) (by decide) ks) ?_
        have hin : inS p0 := by
          unfold inS
          have u0 : ¬ p0.toInt < (65008 : Int32).toInt := fun q => c176_3 (Int32.lt_iff_toInt_lt.mpr q)
          have u1 : ¬ (65533 : Int32).toInt < p0.toInt := fun q => c182_4 (Int32.lt_iff_toInt_lt.mpr q)
          have u2 := rng32 p0
          have u3 := (by decide : (65008 : Int32).toInt = 65008)
          have u4 := (by decide : (65533 : Int32).toInt = 65533)
          omega
        refine Dn.out X0 (v := (some (.int (1 : Int32)))) (fun h => by rw [Bd.returns] at h; cases h) (BodyLoose.notSynchronized Bd) (fun _ hr => retN X0 hx (t := .boolean) Bd.returns (by simp) (hb hby d1_202) hr) (by decide) (by decide) ?_
        rw [e0]
        exact ⟨by simp only [isN, if_pos hin], N0, rfl⟩
  have J161 : ∀ (hJ : ¬ ((58 ≤ p0.toInt ∧ p0.toInt ≤ 58) ∨ (65 ≤ p0.toInt ∧ p0.toInt ≤ 90) ∨ (95 ≤ p0.toInt ∧ p0.toInt ≤ 95) ∨ (97 ≤ p0.toInt ∧ p0.toInt ≤ 122) ∨ (192 ≤ p0.toInt ∧ p0.toInt ≤ 214) ∨ (216 ≤ p0.toInt ∧ p0.toInt ≤ 246) ∨ (248 ≤ p0.toInt ∧ p0.toInt ≤ 767) ∨ (880 ≤ p0.toInt ∧ p0.toInt ≤ 893) ∨ (895 ≤ p0.toInt ∧ p0.toInt ≤ 8191) ∨ (8204 ≤ p0.toInt ∧ p0.toInt ≤ 8205) ∨ (8304 ≤ p0.toInt ∧ p0.toInt ≤ 8591) ∨ (11264 ≤ p0.toInt ∧ p0.toInt ≤ 12271) ∨ (12289 ≤ p0.toInt ∧ p0.toInt ≤ 55295))), Dn p e below s Rm1.cells Rm1.slots (Q1 Z p0 h0 n0) (s₁.setTop (mkF m 161 #[.val (.int p0)] [])) := by
    intro hJ
    refine Dn.by (U' := s₁.setTop (mkF m 162 #[.val (.int p0)] [(.int p0)])) (fun _ ks => XS.iloadN X0.here hx rfl (hb hby d1_161) rfl ks) ?_
    refine Dn.by (U' := s₁.setTop (mkF m 164 #[.val (.int p0)] [(.int (63744 : Int32)), (.int p0)])) (X0.ldcInt hx hown (mvT hZ (hw _ (List.mem_of_getElem? (i := 38) rfl))) (g := (mkF m 162 #[.val (.int p0)] [(.int p0)])) rfl (hb hby d1_162)) ?_
    by_cases c164_5 : p0 < (63744 : Int32)
    ·
      refine Dn.by (U' := s₁.setTop (mkF m 173 #[.val (.int p0)] [])) (fun _ ks => XS.icmpYes X0.here hx rfl (pc0 := 164) (pc' := 173) rfl (hb hby d1_164) rfl (tlt c164_5).1 (by decide) (by decide) ks) ?_
      refine J173 ?_
      have u0 := Int32.lt_iff_toInt_lt.mp c164_5
      have u1 := rng32 p0
      have u2 := (by decide : (63744 : Int32).toInt = 63744)
      omega
    ·
      refine Dn.by (U' := s₁.setTop (mkF m 167 #[.val (.int p0)] [])) (fun _ ks => XS.icmpNo X0.here hx rfl (hb hby d1_164) rfl (flt c164_5).1 ks) ?_
      refine Dn.by (U' := s₁.setTop (mkF m 168 #[.val (.int p0)] [(.int p0)])) (fun _ ks => XS.iloadN X0.here hx rfl (hb hby d1_167) rfl ks) ?_
      refine Dn.by (U' := s₁.setTop (mkF m 170 #[.val (.int p0)] [(.int (64975 : Int32)), (.int p0)])) (X0.ldcInt hx hown (mvT hZ (hw _ (List.mem_of_getElem? (i := 39) rfl))) (g := (mkF m 168 #[.val (.int p0)] [(.int p0)])) rfl (hb hby d1_168)) ?_
      by_cases c170_6 : (64975 : Int32) < p0
      ·
        refine Dn.by (U' := s₁.setTop (mkF m 173 #[.val (.int p0)] [])) (fun _ ks => XS.icmpNo X0.here hx rfl (hb hby d1_170) rfl (tlt c170_6).2.2.2 ks) ?_
        refine J173 ?_
        have u0 : ¬ p0.toInt < (63744 : Int32).toInt := fun q => c164_5 (Int32.lt_iff_toInt_lt.mpr q)
        have u1 := Int32.lt_iff_toInt_lt.mp c170_6
        have u2 := rng32 p0
        have u3 := (by decide : (63744 : Int32).toInt = 63744)
        have u4 := (by decide : (64975 : Int32).toInt = 64975)
        omega
      ·
        refine Dn.by (U' := s₁.setTop (mkF m 197 #[.val (.int p0)] [])) (fun _ ks => XS.icmpYes X0.here hx rfl (pc0 := 170) (pc' := 197) rfl (hb hby d1_170) rfl (flt c170_6).2.2.2 (by decide) (by decide) ks) ?_
        refine Dn.by (U' := s₁.setTop (mkF m 198 #[.val (.int p0)] [(.int (1 : Int32))])) (fun _ ks => XS.iconst X0.here hx rfl (hb hby d1_197)  ks) ?_
        refine Dn.by (U' := s₁.setTop (mkF m 202 #[.val (.int p0)] [(.int (1 : Int32))])) (fun _ ks => XS.goto X0.here hx rfl (pc0 := 198) (pc' := 202) rfl (hb hby d1_198) (by decide) (by decide) ks) ?_
        have hin : inS p0 := by
          unfold inS
          have u0 : ¬ p0.toInt < (63744 : Int32).toInt := fun q => c164_5 (Int32.lt_iff_toInt_lt.mpr q)
          have u1 : ¬ (64975 : Int32).toInt < p0.toInt := fun q => c170_6 (Int32.lt_iff_toInt_lt.mpr q)
          have u2 := rng32 p0
          have u3 := (by decide : (63744 : Int32).toInt = 63744)
          have u4 := (by decide : (64975 : Int32).toInt = 64975)
          omega
        refine Dn.out X0 (v := (some (.int (1 : Int32)))) (fun h => by rw [Bd.returns] at h; cases h) (BodyLoose.notSynchronized Bd) (fun _ hr => retN X0 hx (t := .boolean) Bd.returns (by simp) (hb hby d1_202) hr) (by decide) (by decide) ?_
        rw [e0]
        exact ⟨by simp only [isN, if_pos hin], N0, rfl⟩
  have J148 : ∀ (hJ : ¬ ((58 ≤ p0.toInt ∧ p0.toInt ≤ 58) ∨ (65 ≤ p0.toInt ∧ p0.toInt ≤ 90) ∨ (95 ≤ p0.toInt ∧ p0.toInt ≤ 95) ∨ (97 ≤ p0.toInt ∧ p0.toInt ≤ 122) ∨ (192 ≤ p0.toInt ∧ p0.toInt ≤ 214) ∨ (216 ≤ p0.toInt ∧ p0.toInt ≤ 246) ∨ (248 ≤ p0.toInt ∧ p0.toInt ≤ 767) ∨ (880 ≤ p0.toInt ∧ p0.toInt ≤ 893) ∨ (895 ≤ p0.toInt ∧ p0.toInt ≤ 8191) ∨ (8204 ≤ p0.toInt ∧ p0.toInt ≤ 8205) ∨ (8304 ≤ p0.toInt ∧ p0.toInt ≤ 8591) ∨ (11264 ≤ p0.toInt ∧ p0.toInt ≤ 12271))), Dn p e below s Rm1.cells Rm1.slots (Q1 Z p0 h0 n0) (s₁.setTop (mkF m 148 #[.val (.int p0)] [])) := by
    intro hJ
    refine Dn.by (U' := s₁.setTop (mkF m 149 #[.val (.int p0)] [(.int p0)])) (fun _ ks => XS.iloadN X0.here hx rfl (hb hby d1_148) rfl ks) ?_
    refine Dn.by (U' := s₁.setTop (mkF m 152 #[.val (.int p0)] [(.int (12289 : Int32)), (.int p0)])) (fun _ ks => XS.sipush X0.here hx rfl (hb hby d1_149)  ks) ?_
    by_cases c152_7 : p0 < (12289 : Int32)
    ·
      refine Dn.by (U' := s₁.setTop (mkF m 161 #[.val (.int p0)] [])) (fun _ ks => XS.icmpYes X0.here hx rfl (pc0 := 152) (pc' := 161) rfl (hb hby d1_152) rfl (tlt c152_7).1 (by decide) (by decide) ks) ?_
      refine J161 ?_
      have u0 := Int32.lt_iff_toInt_lt.mp c152_7
      have u1 := rng32 p0
      have u2 := (by decide : (12289 : Int32).toInt = 12289)
      omega
    ·
      refine Dn.by (U' := s₁.setTop (mkF m 155 #[.val (.int p0)] [])) (fun _ ks => XS.icmpNo X0.here hx rfl (hb hby d1_152) rfl (flt c152_7).1 ks) ?_
      refine Dn.by (U' := s₁.setTop (mkF m 156 #[.val (.int p0)] [(.int p0)])) (fun _ ks => XS.iloadN X0.here hx rfl (hb hby d1_155) rfl ks) ?_
      refine Dn.by (U' := s₁.setTop (mkF m 158 #[.val (.int p0)] [(.int (55295 : Int32)), (.int p0)])) (X0.ldcInt hx hown (mvT hZ (hw _ (List.mem_of_getElem? (i := 37) rfl))) (g := (mkF m 156 #[.val (.int p0)] [(.int p0)])) rfl (hb hby d1_156)) ?_
      by_cases c158_8 : (55295 : Int32) < p0
      ·
        refine Dn.by (U' := s₁.setTop (mkF m 161 #[.val (.int p0)] [])) (fun _ ks => XS.icmpNo X0.here hx rfl (hb hby d1_158) rfl (tlt c158_8).2.2.2 ks) ?_
        refine J161 ?_
        have u0 : ¬ p0.toInt < (12289 : Int32).toInt := fun q => c152_7 (Int32.lt_iff_toInt_lt.mpr q)
        have u1 := Int32.lt_iff_toInt_lt.mp c158_8
        have u2 := rng32 p0
        have u3 := (by decide : (12289 : Int32).toInt = 12289)
        have u4 := (by decide : (55295 : Int32).toInt = 55295)
        omega
      ·
        refine Dn.by (U' := s₁.setTop (mkF m 197 #[.val (.int p0)] [])) (fun _ ks => XS.icmpYes X0.here hx rfl (pc0 := 158) (pc' := 197) rfl (hb hby d1_158) rfl (flt c158_8).2.2.2 (by decide) (by decide) ks) ?_
        refine Dn.by (U' := s₁.setTop (mkF m 198 #[.val (.int p0)] [(.int (1 : Int32))])) (fun _ ks => XS.iconst X0.here hx rfl (hb hby d1_197)  ks) ?_
        refine Dn.by (U' := s₁.setTop (mkF m 202 #[.val (.int p0)] [(.int (1 : Int32))])) (fun _ ks => XS.goto X0.here hx rfl (pc0 := 198) (pc' := 202) rfl (hb hby d1_198) (by decide) (by decide) ks) ?_
        have hin : inS p0 := by
          unfold inS
          have u0 : ¬ p0.toInt < (12289 : Int32).toInt := fun q => c152_7 (Int32.lt_iff_toInt_lt.mpr q)
          have u1 : ¬ (55295 : Int32).toInt < p0.toInt := fun q => c158_8 (Int32.lt_iff_toInt_lt.mpr q)
          have u2 := rng32 p0
          have u3 := (by decide : (12289 : Int32).toInt = 12289)
          have u4 := (by decide : (55295 : Int32).toInt = 55295)
          omega
        refine Dn.out X0 (v := (some (.int (1 : Int32)))) (fun h => by rw [Bd.returns] at h; cases h) (BodyLoose.notSynchronized Bd) (fun _ hr => retN X0 hx (t := .boolean) Bd.returns (by simp) (hb hby d1_202) hr) (by decide) (by decide) ?_
        rw [e0]
        exact ⟨by simp only [isN, if_pos hin], N0, rfl⟩
  have J134 : ∀ (hJ : ¬ ((58 ≤ p0.toInt ∧ p0.toInt ≤ 58) ∨ (65 ≤ p0.toInt ∧ p0.toInt ≤ 90) ∨ (95 ≤ p0.toInt ∧ p0.toInt ≤ 95) ∨ (97 ≤ p0.toInt ∧ p0.toInt ≤ 122) ∨ (192 ≤ p0.toInt ∧ p0.toInt ≤ 214) ∨ (216 ≤ p0.toInt ∧ p0.toInt ≤ 246) ∨ (248 ≤ p0.toInt ∧ p0.toInt ≤ 767) ∨ (880 ≤ p0.toInt ∧ p0.toInt ≤ 893) ∨ (895 ≤ p0.toInt ∧ p0.toInt ≤ 8191) ∨ (8204 ≤ p0.toInt ∧ p0.toInt ≤ 8205) ∨ (8304 ≤ p0.toInt ∧ p0.toInt ≤ 8591))), Dn p e below s Rm1.cells Rm1.slots (Q1 Z p0 h0 n0) (s₁.setTop (mkF m 134 #[.val (.int p0)] [])) := by
    intro hJ
    refine Dn.by (U' := s₁.setTop (mkF m 135 #[.val (.int p0)] [(.int p0)])) (fun _ ks => XS.iloadN X0.here hx rfl (hb hby d1_134) rfl ks) ?_
    refine Dn.by (U' := s₁.setTop (mkF m 138 #[.val (.int p0)] [(.int (11264 : Int32)), (.int p0)])) (fun _ ks => XS.sipush X0.here hx rfl (hb hby d1_135)  ks) ?_
    by_cases c138_9 : p0 < (11264 : Int32)
    ·
      refine Dn.by (U' := s₁.setTop (mkF m 148 #[.val (.int p0)] [])) (fun _ ks => XS.icmpYes X0.here hx rfl (pc0 := 138) (pc' := 148) rfl (hb hby d1_138) rfl (tlt c138_9).1 (by decide) (by decide) ks) ?_
      refine J148 ?_
      have u0 := Int32.lt_iff_toInt_lt.mp c138_9
      have u1 := rng32 p0
      have u2 := (by decide : (11264 : Int32).toInt = 11264)
      omega
    ·
      refine Dn.by (U' := s₁.setTop (mkF m 141 #[.val (.int p0)] [])) (fun _ ks => XS.icmpNo X0.here hx rfl (hb hby d1_138) rfl (flt c138_9).1 ks) ?_
      refine Dn.by (U' := s₁.setTop (mkF m 142 #[.val (.int p0)] [(.int p0)])) (fun _ ks => XS.iloadN X0.here hx rfl (hb hby d1_141) rfl ks) ?_
      refine Dn.by (U' := s₁.setTop (mkF m 145 #[.val (.int p0)] [(.int (12271 : Int32)), (.int p0)])) (fun _ ks => XS.sipush X0.here hx rfl (hb hby d1_142)  ks) ?_
      by_cases c145_10 : (12271 : Int32) < p0
      ·
        refine Dn.by (U' := s₁.setTop (mkF m 148 #[.val (.int p0)] [])) (fun _ ks => XS.icmpNo X0.here hx rfl (hb hby d1_145) rfl (tlt c145_10).2.2.2 ks) ?_
        refine J148 ?_
        have u0 : ¬ p0.toInt < (11264 : Int32).toInt := fun q => c138_9 (Int32.lt_iff_toInt_lt.mpr q)
        have u1 := Int32.lt_iff_toInt_lt.mp c145_10
        have u2 := rng32 p0
        have u3 := (by decide : (11264 : Int32).toInt = 11264)
        have u4 := (by decide : (12271 : Int32).toInt = 12271)
        omega
      ·
        refine Dn.by (U' := s₁.setTop (mkF m 197 #[.val (.int p0)] [])) (fun _ ks => XS.icmpYes X0.here hx rfl (pc0 := 145) (pc' := 197) rfl (hb hby d1_145) rfl (flt c145_10).2.2.2 (by decide) (by decide) ks) ?_
        refine Dn.by (U' := s₁.setTop (mkF m 198 #[.val (.int p0)] [(.int (1 : Int32))])) (fun _ ks => XS.iconst X0.here hx rfl (hb hby d1_197)  ks) ?_
        refine Dn.by (U' := s₁.setTop (mkF m 202 #[.val (.int p0)] [(.int (1 : Int32))])) (fun _ ks => XS.goto X0.here hx rfl (pc0 := 198) (pc' := 202) rfl (hb hby d1_198) (by decide) (by decide) ks) ?_
        have hin : inS p0 := by
          unfold inS
          have u0 : ¬ p0.toInt < (11264 : Int32).toInt := fun q => c138_9 (Int32.lt_iff_toInt_lt.mpr q)
          have u1 : ¬ (12271 : Int32).toInt < p0.toInt := fun q => c145_10 (Int32.lt_iff_toInt_lt.mpr q)
          have u2 := rng32 p0
          have u3 := (by decide : (11264 : Int32).toInt = 11264)
          have u4 := (by decide : (12271 : Int32).toInt = 12271)
          omega
        refine Dn.out X0 (v := (some (.int (1 : Int32)))) (fun h => by rw [Bd.returns] at h; cases h) (BodyLoose.notSynchronized Bd) (fun _ hr => retN X0 hx (t := .boolean) Bd.returns (by simp) (hb hby d1_202) hr) (by decide) (by decide) ?_
        rw [e0]
        exact ⟨by simp only [isN, if_pos hin], N0, rfl⟩
  have J120 : ∀ (hJ : ¬ ((58 ≤ p0.toInt ∧ p0.toInt ≤ 58) ∨ (65 ≤ p0.toInt ∧ p0.toInt ≤ 90) ∨ (95 ≤ p0.toInt ∧ p0.toInt ≤ 95) ∨ (97 ≤ p0.toInt ∧ p0.toInt ≤ 122) ∨ (192 ≤ p0.toInt ∧ p0.toInt ≤ 214) ∨ (216 ≤ p0.toInt ∧ p0.toInt ≤ 246) ∨ (248 ≤ p0.toInt ∧ p0.toInt ≤ 767) ∨ (880 ≤ p0.toInt ∧ p0.toInt ≤ 893) ∨ (895 ≤ p0.toInt ∧ p0.toInt ≤ 8191) ∨ (8204 ≤ p0.toInt ∧ p0.toInt ≤ 8205))), Dn p e below s Rm1.cells Rm1.slots (Q1 Z p0 h0 n0) (s₁.setTop (mkF m 120 #[.val (.int p0)] [])) := by
    intro hJ
    refine Dn.by (U' := s₁.setTop (mkF m 121 #[.val (.int p0)] [(.int p0)])) (fun _ ks => XS.iloadN X0.here hx rfl (hb hby d1_120) rfl ks) ?_
    refine Dn.by (U' := s₁.setTop (mkF m 124 #[.val (.int p0)] [(.int (8304 : Int32)), (.int p0)])) (fun _ ks => XS.sipush X0.here hx rfl (hb hby d1_121)  ks) ?_
    by_cases c124_11 : p0 < (8304 : Int32)
    ·
      refine Dn.by (U' := s₁.setTop (mkF m 134 #[.val (.int p0)] [])) (fun _ ks => XS.icmpYes X0.here hx rfl (pc0 := 124) (pc' := 134) rfl (hb hby d1_124) rfl (tlt c124_11).1 (by decide) (by decide) ks) ?_
      refine J134 ?_
      have u0 := Int32.lt_iff_toInt_lt.mp c124_11
      have u1 := rng32 p0
      have u2 := (by decide : (8304 : Int32).toInt = 8304)
      omega
    ·
      refine Dn.by (U' := s₁.setTop (mkF m 127 #[.val (.int p0)] [])) (fun _ ks => XS.icmpNo X0.here hx rfl (hb hby d1_124) rfl (flt c124_11).1 ks) ?_
      refine Dn.by (U' := s₁.setTop (mkF m 128 #[.val (.int p0)] [(.int p0)])) (fun _ ks => XS.iloadN X0.here hx rfl (hb hby d1_127) rfl ks) ?_
      refine Dn.by (U' := s₁.setTop (mkF m 131 #[.val (.int p0)] [(.int (8591 : Int32)), (.int p0)])) (fun _ ks => XS.sipush X0.here hx rfl (hb hby d1_128)  ks) ?_
      by_cases c131_12 : (8591 : Int32) < p0
      ·
        refine Dn.by (U' := s₁.setTop (mkF m 134 #[.val (.int p0)] [])) (fun _ ks => XS.icmpNo X0.here hx rfl (hb hby d1_131) rfl (tlt c131_12).2.2.2 ks) ?_
        refine J134 ?_
        have u0 : ¬ p0.toInt < (8304 : Int32).toInt := fun q => c124_11 (Int32.lt_iff_toInt_lt.mpr q)
        have u1 := Int32.lt_iff_toInt_lt.mp c131_12
        have u2 := rng32 p0
        have u3 := (by decide : (8304 : Int32).toInt = 8304)
        have u4 := (by decide : (8591 : Int32).toInt = 8591)
        omega
      ·
        refine Dn.by (U' := s₁.setTop (mkF m 197 #[.val (.int p0)] [])) (fun _ ks => XS.icmpYes X0.here hx rfl (pc0 := 131) (pc' := 197) rfl (hb hby d1_131) rfl (flt c131_12).2.2.2 (by decide) (by decide) ks) ?_
        refine Dn.by (U' := s₁.setTop (mkF m 198 #[.val (.int p0)] [(.int (1 : Int32))])) (fun _ ks => XS.iconst X0.here hx rfl (hb hby d1_197)  ks) ?_
        refine Dn.by (U' := s₁.setTop (mkF m 202 #[.val (.int p0)] [(.int (1 : Int32))])) (fun _ ks => XS.goto X0.here hx rfl (pc0 := 198) (pc' := 202) rfl (hb hby d1_198) (by decide) (by decide) ks) ?_
        have hin : inS p0 := by
          unfold inS
          have u0 : ¬ p0.toInt < (8304 : Int32).toInt := fun q => c124_11 (Int32.lt_iff_toInt_lt.mpr q)
          have u1 : ¬ (8591 : Int32).toInt < p0.toInt := fun q => c131_12 (Int32.lt_iff_toInt_lt.mpr q)
          have u2 := rng32 p0
          have u3 := (by decide : (8304 : Int32).toInt = 8304)
          have u4 := (by decide : (8591 : Int32).toInt = 8591)
          omega
        refine Dn.out X0 (v := (some (.int (1 : Int32)))) (fun h => by rw [Bd.returns] at h; cases h) (BodyLoose.notSynchronized Bd) (fun _ hr => retN X0 hx (t := .boolean) Bd.returns (by simp) (hb hby d1_202) hr) (by decide) (by decide) ?_
        rw [e0]
        exact ⟨by simp only [isN, if_pos hin], N0, rfl⟩
  have J106 : ∀ (hJ : ¬ ((58 ≤ p0.toInt ∧ p0.toInt ≤ 58) ∨ (65 ≤ p0.toInt ∧ p0.toInt ≤ 90) ∨ (95 ≤ p0.toInt ∧ p0.toInt ≤ 95) ∨ (97 ≤ p0.toInt ∧ p0.toInt ≤ 122) ∨ (192 ≤ p0.toInt ∧ p0.toInt ≤ 214) ∨ (216 ≤ p0.toInt ∧ p0.toInt ≤ 246) ∨ (248 ≤ p0.toInt ∧ p0.toInt ≤ 767) ∨ (880 ≤ p0.toInt ∧ p0.toInt ≤ 893) ∨ (895 ≤ p0.toInt ∧ p0.toInt ≤ 8191))), Dn p e below s Rm1.cells Rm1.slots (Q1 Z p0 h0 n0) (s₁.setTop (mkF m 106 #[.val (.int p0)] [])) := by
    intro hJ
    refine Dn.by (U' := s₁.setTop (mkF m 107 #[.val (.int p0)] [(.int p0)])) (fun _ ks => XS.iloadN X0.here hx rfl (hb hby d1_106) rfl ks) ?_
    refine Dn.by (U' := s₁.setTop (mkF m 110 #[.val (.int p0)] [(.int (8204 : Int32)), (.int p0)])) (fun _ ks => XS.sipush X0.here hx rfl (hb hby d1_107)  ks) ?_
    by_cases c110_13 : p0 < (8204 : Int32)
    ·
      refine Dn.by (U' := s₁.setTop (mkF m 120 #[.val (.int p0)] [])) (fun _ ks => XS.icmpYes X0.here hx rfl (pc0 := 110) (pc' := 120) rfl (hb hby d1_110) rfl (tlt c110_13).1 (by decide) (by decide) ks) ?_
      refine J120 ?_
      have u0 := Int32.lt_iff_toInt_lt.mp c110_13
      have u1 := rng32 p0
      have u2 := (by decide : (8204 : Int32).toInt = 8204)
      omega
    ·
      refine Dn.by (U' := s₁.setTop (mkF m 113 #[.val (.int p0)] [])) (fun _ ks => XS.icmpNo X0.here hx rfl (hb hby d1_110) rfl (flt c110_13).1 ks) ?_
      refine Dn.by (U' := s₁.setTop (mkF m 114 #[.val (.int p0)] [(.int p0)])) (fun _ ks => XS.iloadN X0.here hx rfl (hb hby d1_113) rfl ks) ?_
      refine Dn.by (U' := s₁.setTop (mkF m 117 #[.val (.int p0)] [(.int (8205 : Int32)), (.int p0)])) (fun _ ks => XS.sipush X0.here hx rfl (hb hby d1_114)  ks) ?_
      by_cases c117_14 : (8205 : Int32) < p0
      ·
        refine Dn.by (U' := s₁.setTop (mkF m 120 #[.val (.int p0)] [])) (fun _ ks => XS.icmpNo X0.here hx rfl (hb hby d1_117) rfl (tlt c117_14).2.2.2 ks) ?_
        refine J120 ?_
        have u0 : ¬ p0.toInt < (8204 : Int32).toInt := fun q => c110_13 (Int32.lt_iff_toInt_lt.mpr q)
        have u1 := Int32.lt_iff_toInt_lt.mp c117_14
        have u2 := rng32 p0
        have u3 := (by decide : (8204 : Int32).toInt = 8204)
        have u4 := (by decide : (8205 : Int32).toInt = 8205)
        omega
      ·
        refine Dn.by (U' := s₁.setTop (mkF m 197 #[.val (.int p0)] [])) (fun _ ks => XS.icmpYes X0.here hx rfl (pc0 := 117) (pc' := 197) rfl (hb hby d1_117) rfl (flt c117_14).2.2.2 (by decide) (by decide) ks) ?_
        refine Dn.by (U' := s₁.setTop (mkF m 198 #[.val (.int p0)] [(.int (1 : Int32))])) (fun _ ks => XS.iconst X0.here hx rfl (hb hby d1_197)  ks) ?_
        refine Dn.by (U' := s₁.setTop (mkF m 202 #[.val (.int p0)] [(.int (1 : Int32))])) (fun _ ks => XS.goto X0.here hx rfl (pc0 := 198) (pc' := 202) rfl (hb hby d1_198) (by decide) (by decide) ks) ?_
        have hin : inS p0 := by
          unfold inS
          have u0 : ¬ p0.toInt < (8204 : Int32).toInt := fun q => c110_13 (Int32.lt_iff_toInt_lt.mpr q)
          have u1 : ¬ (8205 : Int32).toInt < p0.toInt := fun q => c117_14 (Int32.lt_iff_toInt_lt.mpr q)
          have u2 := rng32 p0
          have u3 := (by decide : (8204 : Int32).toInt = 8204)
          have u4 := (by decide : (8205 : Int32).toInt = 8205)
          omega
        refine Dn.out X0 (v := (some (.int (1 : Int32)))) (fun h => by rw [Bd.returns] at h; cases h) (BodyLoose.notSynchronized Bd) (fun _ hr => retN X0 hx (t := .boolean) Bd.returns (by simp) (hb hby d1_202) hr) (by decide) (by decide) ?_
        rw [e0]
        exact ⟨by simp only [isN, if_pos hin], N0, rfl⟩
  have J92 : ∀ (hJ : ¬ ((58 ≤ p0.toInt ∧ p0.toInt ≤ 58) ∨ (65 ≤ p0.toInt ∧ p0.toInt ≤ 90) ∨ (95 ≤ p0.toInt ∧ p0.toInt ≤ 95) ∨ (97 ≤ p0.toInt ∧ p0.toInt ≤ 122) ∨ (192 ≤ p0.toInt ∧ p0.toInt ≤ 214) ∨ (216 ≤ p0.toInt ∧ p0.toInt ≤ 246) ∨ (248 ≤ p0.toInt ∧ p0.toInt ≤ 767) ∨ (880 ≤ p0.toInt ∧ p0.toInt ≤ 893))), Dn p e below s Rm1.cells Rm1.slots (Q1 Z p0 h0 n0) (s₁.setTop (mkF m 92 #[.val (.int p0)] [])) := by
    intro hJ
    refine Dn.by (U' := s₁.setTop (mkF m 93 #[.val (.int p0)] [(.int p0)])) (fun _ ks => XS.iloadN X0.here hx rfl (hb hby d1_92) rfl ks) ?_
    refine Dn.by (U' := s₁.setTop (mkF m 96 #[.val (.int p0)] [(.int (895 : Int32)), (.int p0)])) (fun _ ks => XS.sipush X0.here hx rfl (hb hby d1_93)  ks) ?_
    by_cases c96_15 : p0 < (895 : Int32)
    ·
      refine Dn.by (U' := s₁.setTop (mkF m 106 #[.val (.int p0)] [])) (fun _ ks => XS.icmpYes X0.here hx rfl (pc0 := 96) (pc' := 106) rfl (hb hby d1_96) rfl (tlt c96_15).1 (by decide) (by decide) ks) ?_
      refine J106 ?_
      have u0 := Int32.lt_iff_toInt_lt.mp c96_15
      have u1 := rng32 p0
      have u2 := (by decide : (895 : Int32).toInt = 895)
      omega
    ·
      refine Dn.by (U' := s₁.setTop (mkF m 99 #[.val (.int p0)] [])) (fun _ ks => XS.icmpNo X0.here hx rfl (hb hby d1_96) rfl (flt c96_15).1 ks) ?_
      refine Dn.by (U' := s₁.setTop (mkF m 100 #[.val (.int p0)] [(.int p0)])) (fun _ ks => XS.iloadN X0.here hx rfl (hb hby d1_99) rfl ks) ?_
      refine Dn.by (U' := s₁.setTop (mkF m 103 #[.val (.int p0)] [(.int (8191 : Int32)), (.int p0)])) (fun _ ks => XS.sipush X0.here hx rfl (hb hby d1_100)  ks) ?_
      by_cases c103_16 : (8191 : Int32) < p0
      ·
        refine Dn.by (U' := s₁.setTop (mkF m 106 #[.val (.int p0)] [])) (fun _ ks => XS.icmpNo X0.here hx rfl (hb hby d1_103) rfl (tlt c103_16).2.2.2 ks) ?_
        refine J106 ?_
        have u0 : ¬ p0.toInt < (895 : Int32).toInt := fun q => c96_15 (Int32.lt_iff_toInt_lt.mpr q)
        have u1 := Int32.lt_iff_toInt_lt.mp c103_16
        have u2 := rng32 p0
        have u3 := (by decide : (895 : Int32).toInt = 895)
        have u4 := (by decide : (8191 : Int32).toInt = 8191)
        omega
      ·
        refine Dn.by (U' := s₁.setTop (mkF m 197 #[.val (.int p0)] [])) (fun _ ks => XS.icmpYes X0.here hx rfl (pc0 := 103) (pc' := 197) rfl (hb hby d1_103) rfl (flt c103_16).2.2.2 (by decide) (by decide) ks) ?_
        refine Dn.by (U' := s₁.setTop (mkF m 198 #[.val (.int p0)] [(.int (1 : Int32))])) (fun _ ks => XS.iconst X0.here hx rfl (hb hby d1_197)  ks) ?_
        refine Dn.by (U' := s₁.setTop (mkF m 202 #[.val (.int p0)] [(.int (1 : Int32))])) (fun _ ks => XS.goto X0.here hx rfl (pc0 := 198) (pc' := 202) rfl (hb hby d1_198) (by decide) (by decide) ks) ?_
        have hin : inS p0 := by
          unfold inS
          have u0 : ¬ p0.toInt < (895 : Int32).toInt := fun q => c96_15 (Int32.lt_iff_toInt_lt.mpr q)
          have u1 : ¬ (8191 : Int32).toInt < p0.toInt := fun q => c103_16 (Int32.lt_iff_toInt_lt.mpr q)
          have u2 := rng32 p0
          have u3 := (by decide : (895 : Int32).toInt = 895)
          have u4 := (by decide : (8191 : Int32).toInt = 8191)
          omega
        refine Dn.out X0 (v := (some (.int (1 : Int32)))) (fun h => by rw [Bd.returns] at h; cases h) (BodyLoose.notSynchronized Bd) (fun _ hr => retN X0 hx (t := .boolean) Bd.returns (by simp) (hb hby d1_202) hr) (by decide) (by decide) ?_
        rw [e0]
        exact ⟨by simp only [isN, if_pos hin], N0, rfl⟩
  have J78 : ∀ (hJ : ¬ ((58 ≤ p0.toInt ∧ p0.toInt ≤ 58) ∨ (65 ≤ p0.toInt ∧ p0.toInt ≤ 90) ∨ (95 ≤ p0.toInt ∧ p0.toInt ≤ 95) ∨ (97 ≤ p0.toInt ∧ p0.toInt ≤ 122) ∨ (192 ≤ p0.toInt ∧ p0.toInt ≤ 214) ∨ (216 ≤ p0.toInt ∧ p0.toInt ≤ 246) ∨ (248 ≤ p0.toInt ∧ p0.toInt ≤ 767))), Dn p e below s Rm1.cells Rm1.slots (Q1 Z p0 h0 n0) (s₁.setTop (mkF m 78 #[.val (.int p0)] [])) := by
    intro hJ
    refine Dn.by (U' := s₁.setTop (mkF m 79 #[.val (.int p0)] [(.int p0)])) (fun _ ks => XS.iloadN X0.here hx rfl (hb hby d1_78) rfl ks) ?_
    refine Dn.by (U' := s₁.setTop (mkF m 82 #[.val (.int p0)] [(.int (880 : Int32)), (.int p0)])) (fun _ ks => XS.sipush X0.here hx rfl (hb hby d1_79)  ks) ?_
    by_cases c82_17 : p0 < (880 : Int32)
    ·
      refine Dn.by (U' := s₁.setTop (mkF m 92 #[.val (.int p0)] [])) (fun _ ks => XS.icmpYes X0.here hx rfl (pc0 := 82) (pc' := 92) rfl (hb hby d1_82) rfl (tlt c82_17).1 (by decide) (by decide) ks) ?_
      refine J92 ?_
      have u0 := Int32.lt_iff_toInt_lt.mp c82_17
      have u1 := rng32 p0
      have u2 := (by decide : (880 : Int32).toInt = 880)
      omega
    ·
      refine Dn.by (U' := s₁.setTop (mkF m 85 #[.val (.int p0)] [])) (fun _ ks => XS.icmpNo X0.here hx rfl (hb hby d1_82) rfl (flt c82_17).1 ks) ?_
      refine Dn.by (U' := s₁.setTop (mkF m 86 #[.val (.int p0)] [(.int p0)])) (fun _ ks => XS.iloadN X0.here hx rfl (hb hby d1_85) rfl ks) ?_
      refine Dn.by (U' := s₁.setTop (mkF m 89 #[.val (.int p0)] [(.int (893 : Int32)), (.int p0)])) (fun _ ks => XS.sipush X0.here hx rfl (hb hby d1_86)  ks) ?_
      by_cases c89_18 : (893 : Int32) < p0
      ·
        refine Dn.by (U' := s₁.setTop (mkF m 92 #[.val (.int p0)] [])) (fun _ ks => XS.icmpNo X0.here hx rfl (hb hby d1_89) rfl (tlt c89_18).2.2.2 ks) ?_
        refine J92 ?_
        have u0 : ¬ p0.toInt < (880 : Int32).toInt := fun q => c82_17 (Int32.lt_iff_toInt_lt.mpr q)
        have u1 := Int32.lt_iff_toInt_lt.mp c89_18
        have u2 := rng32 p0
        have u3 := (by decide : (880 : Int32).toInt = 880)
        have u4 := (by decide : (893 : Int32).toInt = 893)
        omega
      ·
        refine Dn.by (U' := s₁.setTop (mkF m 197 #[.val (.int p0)] [])) (fun _ ks => XS.icmpYes X0.here hx rfl (pc0 := 89) (pc' := 197) rfl (hb hby d1_89) rfl (flt c89_18).2.2.2 (by decide) (by decide) ks) ?_
        refine Dn.by (U' := s₁.setTop (mkF m 198 #[.val (.int p0)] [(.int (1 : Int32))])) (fun _ ks => XS.iconst X0.here hx rfl (hb hby d1_197)  ks) ?_
        refine Dn.by (U' := s₁.setTop (mkF m 202 #[.val (.int p0)] [(.int (1 : Int32))])) (fun _ ks => XS.goto X0.here hx rfl (pc0 := 198) (pc' := 202) rfl (hb hby d1_198) (by decide) (by decide) ks) ?_
        have hin : inS p0 := by
          unfold inS
          have u0 : ¬ p0.toInt < (880 : Int32).toInt := fun q => c82_17 (Int32.lt_iff_toInt_lt.mpr q)
          have u1 : ¬ (893 : Int32).toInt < p0.toInt := fun q => c89_18 (Int32.lt_iff_toInt_lt.mpr q)
          have u2 := rng32 p0
          have u3 := (by decide : (880 : Int32).toInt = 880)
          have u4 := (by decide : (893 : Int32).toInt = 893)
          omega
        refine Dn.out X0 (v := (some (.int (1 : Int32)))) (fun h => by rw [Bd.returns] at h; cases h) (BodyLoose.notSynchronized Bd) (fun _ hr => retN X0 hx (t := .boolean) Bd.returns (by simp) (hb hby d1_202) hr) (by decide) (by decide) ?_
        rw [e0]
        exact ⟨by simp only [isN, if_pos hin], N0, rfl⟩
  have J64 : ∀ (hJ : ¬ ((58 ≤ p0.toInt ∧ p0.toInt ≤ 58) ∨ (65 ≤ p0.toInt ∧ p0.toInt ≤ 90) ∨ (95 ≤ p0.toInt ∧ p0.toInt ≤ 95) ∨ (97 ≤ p0.toInt ∧ p0.toInt ≤ 122) ∨ (192 ≤ p0.toInt ∧ p0.toInt ≤ 214) ∨ (216 ≤ p0.toInt ∧ p0.toInt ≤ 246))), Dn p e below s Rm1.cells Rm1.slots (Q1 Z p0 h0 n0) (s₁.setTop (mkF m 64 #[.val (.int p0)] [])) := by
    intro hJ
    refine Dn.by (U' := s₁.setTop (mkF m 65 #[.val (.int p0)] [(.int p0)])) (fun _ ks => XS.iloadN X0.here hx rfl (hb hby d1_64) rfl ks) ?_
    refine Dn.by (U' := s₁.setTop (mkF m 68 #[.val (.int p0)] [(.int (248 : Int32)), (.int p0)])) (fun _ ks => XS.sipush X0.here hx rfl (hb hby d1_65)  ks) ?_
    by_cases c68_19 : p0 < (248 : Int32)
    ·
      refine Dn.by (U' := s₁.setTop (mkF m 78 #[.val (.int p0)] [])) (fun _ ks => XS.icmpYes X0.here hx rfl (pc0 := 68) (pc' := 78) rfl (hb hby d1_68) rfl (tlt c68_19).1 (by decide) (by decide) ks) ?_
      refine J78 ?_
      have u0 := Int32.lt_iff_toInt_lt.mp c68_19
      have u1 := rng32 p0
      have u2 := (by decide : (248 : Int32).toInt = 248)
      omega
    ·
      refine Dn.by (U' := s₁.setTop (mkF m 71 #[.val (.int p0)] [])) (fun _ ks => XS.icmpNo X0.here hx rfl (hb hby d1_68) rfl (flt c68_19).1 ks) ?_
      refine Dn.by (U' := s₁.setTop (mkF m 72 #[.val (.int p0)] [(.int p0)])) (fun _ ks => XS.iloadN X0.here hx rfl (hb hby d1_71) rfl ks) ?_
      refine Dn.by (U' := s₁.setTop (mkF m 75 #[.val (.int p0)] [(.int (767 : Int32)), (.int p0)])) (fun _ ks => XS.sipush X0.here hx rfl (hb hby d1_72)  ks) ?_
      by_cases c75_20 : (767 : Int32) < p0
      ·
        refine Dn.by (U' := s₁.setTop (mkF m 78 #[.val (.int p0)] [])) (fun _ ks => XS.icmpNo X0.here hx rfl (hb hby d1_75) rfl (tlt c75_20).2.2.2 ks) ?_
        refine J78 ?_
        have u0 : ¬ p0.toInt < (248 : Int32).toInt := fun q => c68_19 (Int32.lt_iff_toInt_lt.mpr q)
        have u1 := Int32.lt_iff_toInt_lt.mp c75_20
        have u2 := rng32 p0
        have u3 := (by decide : (248 : Int32).toInt = 248)
        have u4 := (by decide : (767 : Int32).toInt = 767)
        omega
      ·
        refine Dn.by (U' := s₁.setTop (mkF m 197 #[.val (.int p0)] [])) (fun _ ks => XS.icmpYes X0.here hx rfl (pc0 := 75) (pc' := 197) rfl (hb hby d1_75) rfl (flt c75_20).2.2.2 (by decide) (by decide) ks) ?_
        refine Dn.by (U' := s₁.setTop (mkF m 198 #[.val (.int p0)] [(.int (1 : Int32))])) (fun _ ks => XS.iconst X0.here hx rfl (hb hby d1_197)  ks) ?_
        refine Dn.by (U' := s₁.setTop (mkF m 202 #[.val (.int p0)] [(.int (1 : Int32))])) (fun _ ks => XS.goto X0.here hx rfl (pc0 := 198) (pc' := 202) rfl (hb hby d1_198) (by decide) (by decide) ks) ?_
        have hin : inS p0 := by
          unfold inS
          have u0 : ¬ p0.toInt < (248 : Int32).toInt := fun q => c68_19 (Int32.lt_iff_toInt_lt.mpr q)
          have u1 : ¬ (767 : Int32).toInt < p0.toInt := fun q => c75_20 (Int32.lt_iff_toInt_lt.mpr q)
          have u2 := rng32 p0
          have u3 := (by decide : (248 : Int32).toInt = 248)
          have u4 := (by decide : (767 : Int32).toInt = 767)
          omega
        refine Dn.out X0 (v := (some (.int (1 : Int32)))) (fun h => by rw [Bd.returns] at h; cases h) (BodyLoose.notSynchronized Bd) (fun _ hr => retN X0 hx (t := .boolean) Bd.returns (by simp) (hb hby d1_202) hr) (by decide) (by decide) ?_
        rw [e0]
        exact ⟨by simp only [isN, if_pos hin], N0, rfl⟩
  have J50 : ∀ (hJ : ¬ ((58 ≤ p0.toInt ∧ p0.toInt ≤ 58) ∨ (65 ≤ p0.toInt ∧ p0.toInt ≤ 90) ∨ (95 ≤ p0.toInt ∧ p0.toInt ≤ 95) ∨ (97 ≤ p0.toInt ∧ p0.toInt ≤ 122) ∨ (192 ≤ p0.toInt ∧ p0.toInt ≤ 214))), Dn p e below s Rm1.cells Rm1.slots (Q1 Z p0 h0 n0) (s₁.setTop (mkF m 50 #[.val (.int p0)] [])) := by
    intro hJ
    refine Dn.by (U' := s₁.setTop (mkF m 51 #[.val (.int p0)] [(.int p0)])) (fun _ ks => XS.iloadN X0.here hx rfl (hb hby d1_50) rfl ks) ?_
    refine Dn.by (U' := s₁.setTop (mkF m 54 #[.val (.int p0)] [(.int (216 : Int32)), (.int p0)])) (fun _ ks => XS.sipush X0.here hx rfl (hb hby d1_51)  ks) ?_
    by_cases c54_21 : p0 < (216 : Int32)
    ·
      refine Dn.by (U' := s₁.setTop (mkF m 64 #[.val (.int p0)] [])) (fun _ ks => XS.icmpYes X0.here hx rfl (pc0 := 54) (pc' := 64) rfl (hb hby d1_54) rfl (tlt c54_21).1 (by decide) (by decide) ks) ?_
      refine J64 ?_
      have u0 := Int32.lt_iff_toInt_lt.mp c54_21
      have u1 := rng32 p0
      have u2 := (by decide : (216 : Int32).toInt = 216)
      omega
    ·
      refine Dn.by (U' := s₁.setTop (mkF m 57 #[.val (.int p0)] [])) (fun _ ks => XS.icmpNo X0.here hx rfl (hb hby d1_54) rfl (flt c54_21).1 ks) ?_
      refine Dn.by (U' := s₁.setTop (mkF m 58 #[.val (.int p0)] [(.int p0)])) (fun _ ks => XS.iloadN X0.here hx rfl (hb hby d1_57) rfl ks) ?_
      refine Dn.by (U' := s₁.setTop (mkF m 61 #[.val (.int p0)] [(.int (246 : Int32)), (.int p0)])) (fun _ ks => XS.sipush X0.here hx rfl (hb hby d1_58)  ks) ?_
      by_cases c61_22 : (246 : Int32) < p0
      ·
        refine Dn.by (U' := s₁.setTop (mkF m 64 #[.val (.int p0)] [])) (fun _ ks => XS.icmpNo X0.here hx rfl (hb hby d1_61) rfl (tlt c61_22).2.2.2 ks) ?_
        refine J64 ?_
        have u0 : ¬ p0.toInt < (216 : Int32).toInt := fun q => c54_21 (Int32.lt_iff_toInt_lt.mpr q)
        have u1 := Int32.lt_iff_toInt_lt.mp c61_22
        have u2 := rng32 p0
        have u3 := (by decide : (216 : Int32).toInt = 216)
        have u4 := (by decide : (246 : Int32).toInt = 246)
        omega
      ·
        refine Dn.by (U' := s₁.setTop (mkF m 197 #[.val (.int p0)] [])) (fun _ ks => XS.icmpYes X0.here hx rfl (pc0 := 61) (pc' := 197) rfl (hb hby d1_61) rfl (flt c61_22).2.2.2 (by decide) (by decide) ks) ?_
        refine Dn.by (U' := s₁.setTop (mkF m 198 #[.val (.int p0)] [(.int (1 : Int32))])) (fun _ ks => XS.iconst X0.here hx rfl (hb hby d1_197)  ks) ?_
        refine Dn.by (U' := s₁.setTop (mkF m 202 #[.val (.int p0)] [(.int (1 : Int32))])) (fun _ ks => XS.goto X0.here hx rfl (pc0 := 198) (pc' := 202) rfl (hb hby d1_198) (by decide) (by decide) ks) ?_
        have hin : inS p0 := by
          unfold inS
          have u0 : ¬ p0.toInt < (216 : Int32).toInt := fun q => c54_21 (Int32.lt_iff_toInt_lt.mpr q)
          have u1 : ¬ (246 : Int32).toInt < p0.toInt := fun q => c61_22 (Int32.lt_iff_toInt_lt.mpr q)
          have u2 := rng32 p0
          have u3 := (by decide : (216 : Int32).toInt = 216)
          have u4 := (by decide : (246 : Int32).toInt = 246)
          omega
        refine Dn.out X0 (v := (some (.int (1 : Int32)))) (fun h => by rw [Bd.returns] at h; cases h) (BodyLoose.notSynchronized Bd) (fun _ hr => retN X0 hx (t := .boolean) Bd.returns (by simp) (hb hby d1_202) hr) (by decide) (by decide) ?_
        rw [e0]
        exact ⟨by simp only [isN, if_pos hin], N0, rfl⟩
  have J36 : ∀ (hJ : ¬ ((58 ≤ p0.toInt ∧ p0.toInt ≤ 58) ∨ (65 ≤ p0.toInt ∧ p0.toInt ≤ 90) ∨ (95 ≤ p0.toInt ∧ p0.toInt ≤ 95) ∨ (97 ≤ p0.toInt ∧ p0.toInt ≤ 122))), Dn p e below s Rm1.cells Rm1.slots (Q1 Z p0 h0 n0) (s₁.setTop (mkF m 36 #[.val (.int p0)] [])) := by
    intro hJ
    refine Dn.by (U' := s₁.setTop (mkF m 37 #[.val (.int p0)] [(.int p0)])) (fun _ ks => XS.iloadN X0.here hx rfl (hb hby d1_36) rfl ks) ?_
    refine Dn.by (U' := s₁.setTop (mkF m 40 #[.val (.int p0)] [(.int (192 : Int32)), (.int p0)])) (fun _ ks => XS.sipush X0.here hx rfl (hb hby d1_37)  ks) ?_
    by_cases c40_23 : p0 < (192 : Int32)
    ·
      refine Dn.by (U' := s₁.setTop (mkF m 50 #[.val (.int p0)] [])) (fun _ ks => XS.icmpYes X0.here hx rfl (pc0 := 40) (pc' := 50) rfl (hb hby d1_40) rfl (tlt c40_23).1 (by decide) (by decide) ks) ?_
      refine J50 ?_
      have u0 := Int32.lt_iff_toInt_lt.mp c40_23
      have u1 := rng32 p0
      have u2 := (by decide : (192 : Int32).toInt = 192)
      omega
    ·
      refine Dn.by (U' := s₁.setTop (mkF m 43 #[.val (.int p0)] [])) (fun _ ks => XS.icmpNo X0.here hx rfl (hb hby d1_40) rfl (flt c40_23).1 ks) ?_
      refine Dn.by (U' := s₁.setTop (mkF m 44 #[.val (.int p0)] [(.int p0)])) (fun _ ks => XS.iloadN X0.here hx rfl (hb hby d1_43) rfl ks) ?_
      refine Dn.by (U' := s₁.setTop (mkF m 47 #[.val (.int p0)] [(.int (214 : Int32)), (.int p0)])) (fun _ ks => XS.sipush X0.here hx rfl (hb hby d1_44)  ks) ?_
      by_cases c47_24 : (214 : Int32) < p0
      ·
        refine Dn.by (U' := s₁.setTop (mkF m 50 #[.val (.int p0)] [])) (fun _ ks => XS.icmpNo X0.here hx rfl (hb hby d1_47) rfl (tlt c47_24).2.2.2 ks) ?_
        refine J50 ?_
        have u0 : ¬ p0.toInt < (192 : Int32).toInt := fun q => c40_23 (Int32.lt_iff_toInt_lt.mpr q)
        have u1 := Int32.lt_iff_toInt_lt.mp c47_24
        have u2 := rng32 p0
        have u3 := (by decide : (192 : Int32).toInt = 192)
        have u4 := (by decide : (214 : Int32).toInt = 214)
        omega
      ·
        refine Dn.by (U' := s₁.setTop (mkF m 197 #[.val (.int p0)] [])) (fun _ ks => XS.icmpYes X0.here hx rfl (pc0 := 47) (pc' := 197) rfl (hb hby d1_47) rfl (flt c47_24).2.2.2 (by decide) (by decide) ks) ?_
        refine Dn.by (U' := s₁.setTop (mkF m 198 #[.val (.int p0)] [(.int (1 : Int32))])) (fun _ ks => XS.iconst X0.here hx rfl (hb hby d1_197)  ks) ?_
        refine Dn.by (U' := s₁.setTop (mkF m 202 #[.val (.int p0)] [(.int (1 : Int32))])) (fun _ ks => XS.goto X0.here hx rfl (pc0 := 198) (pc' := 202) rfl (hb hby d1_198) (by decide) (by decide) ks) ?_
        have hin : inS p0 := by
          unfold inS
          have u0 : ¬ p0.toInt < (192 : Int32).toInt := fun q => c40_23 (Int32.lt_iff_toInt_lt.mpr q)
          have u1 : ¬ (214 : Int32).toInt < p0.toInt := fun q => c47_24 (Int32.lt_iff_toInt_lt.mpr q)
          have u2 := rng32 p0
          have u3 := (by decide : (192 : Int32).toInt = 192)
          have u4 := (by decide : (214 : Int32).toInt = 214)
          omega
        refine Dn.out X0 (v := (some (.int (1 : Int32)))) (fun h => by rw [Bd.returns] at h; cases h) (BodyLoose.notSynchronized Bd) (fun _ hr => retN X0 hx (t := .boolean) Bd.returns (by simp) (hb hby d1_202) hr) (by decide) (by decide) ?_
        rw [e0]
        exact ⟨by simp only [isN, if_pos hin], N0, rfl⟩
  have J18 : ∀ (hJ : ¬ ((58 ≤ p0.toInt ∧ p0.toInt ≤ 58) ∨ (65 ≤ p0.toInt ∧ p0.toInt ≤ 90))), Dn p e below s Rm1.cells Rm1.slots (Q1 Z p0 h0 n0) (s₁.setTop (mkF m 18 #[.val (.int p0)] [])) := by
    intro hJ
    refine Dn.by (U' := s₁.setTop (mkF m 19 #[.val (.int p0)] [(.int p0)])) (fun _ ks => XS.iloadN X0.here hx rfl (hb hby d1_18) rfl ks) ?_
    refine Dn.by (U' := s₁.setTop (mkF m 21 #[.val (.int p0)] [(.int (95 : Int32)), (.int p0)])) (fun _ ks => XS.bipush X0.here hx rfl (hb hby d1_19)  ks) ?_
    by_cases c21_25 : p0 = (95 : Int32)
    ·
      refine Dn.by (U' := s₁.setTop (mkF m 197 #[.val (.int p0)] [])) (fun _ ks => XS.icmpYes X0.here hx rfl (pc0 := 21) (pc' := 197) rfl (hb hby d1_21) rfl (teq c21_25).1 (by decide) (by decide) ks) ?_
      refine Dn.by (U' := s₁.setTop (mkF m 198 #[.val (.int p0)] [(.int (1 : Int32))])) (fun _ ks => XS.iconst X0.here hx rfl (hb hby d1_197)  ks) ?_
      refine Dn.by (U' := s₁.setTop (mkF m 202 #[.val (.int p0)] [(.int (1 : Int32))])) (fun _ ks => XS.goto X0.here hx rfl (pc0 := 198) (pc' := 202) rfl (hb hby d1_198) (by decide) (by decide) ks) ?_
      have hin : inS p0 := by
        unfold inS
        have u0 := congrArg Int32.toInt c21_25
        have u1 := rng32 p0
        have u2 := (by decide : (95 : Int32).toInt = 95)
        omega
      refine Dn.out X0 (v := (some (.int (1 : Int32)))) (fun h => by rw [Bd.returns] at h; cases h) (BodyLoose.notSynchronized Bd) (fun _ hr => retN X0 hx (t := .boolean) Bd.returns (by simp) (hb hby d1_202) hr) (by decide) (by decide) ?_
      rw [e0]
      exact ⟨by simp only [isN, if_pos hin], N0, rfl⟩
    ·
      refine Dn.by (U' := s₁.setTop (mkF m 24 #[.val (.int p0)] [])) (fun _ ks => XS.icmpNo X0.here hx rfl (hb hby d1_21) rfl (feq c21_25).1 ks) ?_
      refine Dn.by (U' := s₁.setTop (mkF m 25 #[.val (.int p0)] [(.int p0)])) (fun _ ks => XS.iloadN X0.here hx rfl (hb hby d1_24) rfl ks) ?_
      refine Dn.by (U' := s₁.setTop (mkF m 27 #[.val (.int p0)] [(.int (97 : Int32)), (.int p0)])) (fun _ ks => XS.bipush X0.here hx rfl (hb hby d1_25)  ks) ?_
      by_cases c27_26 : p0 < (97 : Int32)
      ·
        refine Dn.by (U' := s₁.setTop (mkF m 36 #[.val (.int p0)] [])) (fun _ ks => XS.icmpYes X0.here hx rfl (pc0 := 27) (pc' := 36) rfl (hb hby d1_27) rfl (tlt c27_26).1 (by decide) (by decide) ks) ?_
        refine J36 ?_
        have u0 : ¬ p0.toInt = (95 : Int32).toInt := fun q => c21_25 (Int32.toInt_inj.mp q)
        have u1 := Int32.lt_iff_toInt_lt.mp c27_26
        have u2 := rng32 p0
        have u3 := (by decide : (95 : Int32).toInt = 95)
        have u4 := (by decide : (97 : Int32).toInt = 97)
        omega
      ·
        refine Dn.by (U' := s₁.setTop (mkF m 30 #[.val (.int p0)] [])) (fun _ ks => XS.icmpNo X0.here hx rfl (hb hby d1_27) rfl (flt c27_26).1 ks) ?_
        refine Dn.by (U' := s₁.setTop (mkF m 31 #[.val (.int p0)] [(.int p0)])) (fun _ ks => XS.iloadN X0.here hx rfl (hb hby d1_30) rfl ks) ?_
        refine Dn.by (U' := s₁.setTop (mkF m 33 #[.val (.int p0)] [(.int (122 : Int32)), (.int p0)])) (fun _ ks => XS.bipush X0.here hx rfl (hb hby d1_31)  ks) ?_
        by_cases c33_27 : (122 : Int32) < p0
        ·
          refine Dn.by (U' := s₁.setTop (mkF m 36 #[.val (.int p0)] [])) (fun _ ks => XS.icmpNo X0.here hx rfl (hb hby d1_33) rfl (tlt c33_27).2.2.2 ks) ?_
          refine J36 ?_
          have u0 : ¬ p0.toInt = (95 : Int32).toInt := fun q => c21_25 (Int32.toInt_inj.mp q)
          have u1 : ¬ p0.toInt < (97 : Int32).toInt := fun q => c27_26 (Int32.lt_iff_toInt_lt.mpr q)
          have u2 := Int32.lt_iff_toInt_lt.mp c33_27
          have u3 := rng32 p0
          have u4 := (by decide : (95 : Int32).toInt = 95)
          have u5 := (by decide : (97 : Int32).toInt = 97)
          have u6 := (by decide : (122 : Int32).toInt = 122)
          omega
        ·
          refine Dn.by (U' := s₁.setTop (mkF m 197 #[.val (.int p0)] [])) (fun _ ks => XS.icmpYes X0.here hx rfl (pc0 := 33) (pc' := 197) rfl (hb hby d1_33) rfl (flt c33_27).2.2.2 (by decide) (by decide) ks) ?_
          refine Dn.by (U' := s₁.setTop (mkF m 198 #[.val (.int p0)] [(.int (1 : Int32))])) (fun _ ks => XS.iconst X0.here hx rfl (hb hby d1_197)  ks) ?_
          refine Dn.by (U' := s₁.setTop (mkF m 202 #[.val (.int p0)] [(.int (1 : Int32))])) (fun _ ks => XS.goto X0.here hx rfl (pc0 := 198) (pc' := 202) rfl (hb hby d1_198) (by decide) (by decide) ks) ?_
          have hin : inS p0 := by
            unfold inS
            have u0 : ¬ p0.toInt = (95 : Int32).toInt := fun q => c21_25 (Int32.toInt_inj.mp q)
            have u1 : ¬ p0.toInt < (97 : Int32).toInt := fun q => c27_26 (Int32.lt_iff_toInt_lt.mpr q)
            have u2 : ¬ (122 : Int32).toInt < p0.toInt := fun q => c33_27 (Int32.lt_iff_toInt_lt.mpr q)
            have u3 := rng32 p0
            have u4 := (by decide : (95 : Int32).toInt = 95)
            have u5 := (by decide : (97 : Int32).toInt = 97)
            have u6 := (by decide : (122 : Int32).toInt = 122)
            omega
          refine Dn.out X0 (v := (some (.int (1 : Int32)))) (fun h => by rw [Bd.returns] at h; cases h) (BodyLoose.notSynchronized Bd) (fun _ hr => retN X0 hx (t := .boolean) Bd.returns (by simp) (hb hby d1_202) hr) (by decide) (by decide) ?_
          rw [e0]
          exact ⟨by simp only [isN, if_pos hin], N0, rfl⟩
  refine Dn.by (U' := s₁.setTop (mkF m 1 #[.val (.int p0)] [(.int p0)])) (fun _ ks => XS.iloadN X0.here hx rfl (hb hby d1_0) rfl ks) ?_
  refine Dn.by (U' := s₁.setTop (mkF m 3 #[.val (.int p0)] [(.int (58 : Int32)), (.int p0)])) (fun _ ks => XS.bipush X0.here hx rfl (hb hby d1_1)  ks) ?_
  by_cases c3_28 : p0 = (58 : Int32)
  ·
    refine Dn.by (U' := s₁.setTop (mkF m 197 #[.val (.int p0)] [])) (fun _ ks => XS.icmpYes X0.here hx rfl (pc0 := 3) (pc' := 197) rfl (hb hby d1_3) rfl (teq c3_28).1 (by decide) (by decide) ks) ?_
    refine Dn.by (U' := s₁.setTop (mkF m 198 #[.val (.int p0)] [(.int (1 : Int32))])) (fun _ ks => XS.iconst X0.here hx rfl (hb hby d1_197)  ks) ?_
    refine Dn.by (U' := s₁.setTop (mkF m 202 #[.val (.int p0)] [(.int (1 : Int32))])) (fun _ ks => XS.goto X0.here hx rfl (pc0 := 198) (pc' := 202) rfl (hb hby d1_198) (by decide) (by decide) ks) ?_
    have hin : inS p0 := by
      unfold inS
      have u0 := congrArg Int32.toInt c3_28
      have u1 := rng32 p0
      have u2 := (by decide : (58 : Int32).toInt = 58)
      omega
    refine Dn.out X0 (v := (some (.int (1 : Int32)))) (fun h => by rw [Bd.returns] at h; cases h) (BodyLoose.notSynchronized Bd) (fun _ hr => retN X0 hx (t := .boolean) Bd.returns (by simp) (hb hby d1_202) hr) (by decide) (by decide) ?_
    rw [e0]
    exact ⟨by simp only [isN, if_pos hin], N0, rfl⟩
  ·
    refine Dn.by (U' := s₁.setTop (mkF m 6 #[.val (.int p0)] [])) (fun _ ks => XS.icmpNo X0.here hx rfl (hb hby d1_3) rfl (feq c3_28).1 ks) ?_
    refine Dn.by (U' := s₁.setTop (mkF m 7 #[.val (.int p0)] [(.int p0)])) (fun _ ks => XS.iloadN X0.here hx rfl (hb hby d1_6) rfl ks) ?_
    refine Dn.by (U' := s₁.setTop (mkF m 9 #[.val (.int p0)] [(.int (65 : Int32)), (.int p0)])) (fun _ ks => XS.bipush X0.here hx rfl (hb hby d1_7)  ks) ?_
    by_cases c9_29 : p0 < (65 : Int32)
    ·
      refine Dn.by (U' := s₁.setTop (mkF m 18 #[.val (.int p0)] [])) (fun _ ks => XS.icmpYes X0.here hx rfl (pc0 := 9) (pc' := 18) rfl (hb hby d1_9) rfl (tlt c9_29).1 (by decide) (by decide) ks) ?_
      refine J18 ?_
      have u0 : ¬ p0.toInt = (58 : Int32).toInt := fun q => c3_28 (Int32.toInt_inj.mp q)
      have u1 := Int32.lt_iff_toInt_lt.mp c9_29
      have u2 := rng32 p0
      have u3 := (by decide : (58 : Int32).toInt = 58)
      have u4 := (by decide : (65 : Int32).toInt = 65)
      omega
    ·
      refine Dn.by (U' := s₁.setTop (mkF m 12 #[.val (.int p0)] [])) (fun _ ks => XS.icmpNo X0.here hx rfl (hb hby d1_9) rfl (flt c9_29).1 ks) ?_
      refine Dn.by (U' := s₁.setTop (mkF m 13 #[.val (.int p0)] [(.int p0)])) (fun _ ks => XS.iloadN X0.here hx rfl (hb hby d1_12) rfl ks) ?_
      refine Dn.by (U' := s₁.setTop (mkF m 15 #[.val (.int p0)] [(.int (90 : Int32)), (.int p0)])) (fun _ ks => XS.bipush X0.here hx rfl (hb hby d1_13)  ks) ?_
      by_cases c15_30 : (90 : Int32) < p0
      ·
        refine Dn.by (U' := s₁.setTop (mkF m 18 #[.val (.int p0)] [])) (fun _ ks => XS.icmpNo X0.here hx rfl (hb hby d1_15) rfl (tlt c15_30).2.2.2 ks) ?_
        refine J18 ?_
        have u0 : ¬ p0.toInt = (58 : Int32).toInt := fun q => c3_28 (Int32.toInt_inj.mp q)
        have u1 : ¬ p0.toInt < (65 : Int32).toInt := fun q => c9_29 (Int32.lt_iff_toInt_lt.mpr q)
        have u2 := Int32.lt_iff_toInt_lt.mp c15_30
        have u3 := rng32 p0
        have u4 := (by decide : (58 : Int32).toInt = 58)
        have u5 := (by decide : (65 : Int32).toInt = 65)
        have u6 := (by decide : (90 : Int32).toInt = 90)
        omega
      ·
        refine Dn.by (U' := s₁.setTop (mkF m 197 #[.val (.int p0)] [])) (fun _ ks => XS.icmpYes X0.here hx rfl (pc0 := 15) (pc' := 197) rfl (hb hby d1_15) rfl (flt c15_30).2.2.2 (by decide) (by decide) ks) ?_
        refine Dn.by (U' := s₁.setTop (mkF m 198 #[.val (.int p0)] [(.int (1 : Int32))])) (fun _ ks => XS.iconst X0.here hx rfl (hb hby d1_197)  ks) ?_
        refine Dn.by (U' := s₁.setTop (mkF m 202 #[.val (.int p0)] [(.int (1 : Int32))])) (fun _ ks => XS.goto X0.here hx rfl (pc0 := 198) (pc' := 202) rfl (hb hby d1_198) (by decide) (by decide) ks) ?_
        have hin : inS p0 := by
          unfold inS
          have u0 : ¬ p0.toInt = (58 : Int32).toInt := fun q => c3_28 (Int32.toInt_inj.mp q)
          have u1 : ¬ p0.toInt < (65 : Int32).toInt := fun q => c9_29 (Int32.lt_iff_toInt_lt.mpr q)
          have u2 : ¬ (90 : Int32).toInt < p0.toInt := fun q => c15_30 (Int32.lt_iff_toInt_lt.mpr q)
          have u3 := rng32 p0
          have u4 := (by decide : (58 : Int32).toInt = 58)
          have u5 := (by decide : (65 : Int32).toInt = 65)
          have u6 := (by decide : (90 : Int32).toInt = 90)
          omega
        refine Dn.out X0 (v := (some (.int (1 : Int32)))) (fun h => by rw [Bd.returns] at h; cases h) (BodyLoose.notSynchronized Bd) (fun _ hr => retN X0 hx (t := .boolean) Bd.returns (by simp) (hb hby d1_202) hr) (by decide) (by decide) ?_
        rw [e0]
        exact ⟨by simp only [isN, if_pos hin], N0, rfl⟩
def own_R (lo hi : Int64) (ex : Int32) : Prop := lo.toInt ≤ hi.toInt ∧ -2147483648 ≤ lo.toInt ∧ hi.toInt ≤ 2147483647 ∧ ∀ c : Int32, lo.toInt ≤ c.toInt → c.toInt ≤ hi.toInt → isN c = ex
theorem own_R1 (lo hi : Int64) (a z : Int) (ha : lo.toInt = a) (hz : hi.toInt = z) (h1 : a ≤ z) (h2 : -2147483648 ≤ a) (h3 : z ≤ 2147483647) (hc : ∀ c : Int32, a ≤ c.toInt → c.toInt ≤ z → inS c) : own_R lo hi 1 :=
  ⟨by rw [ha, hz]; exact h1, by rw [ha]; exact h2, by rw [hz]; exact h3, fun c q1 q2 => if_pos (hc c (ha ▸ q1) (hz ▸ q2))⟩
theorem own_R0 (lo hi : Int64) (a z : Int) (ha : lo.toInt = a) (hz : hi.toInt = z) (h1 : a ≤ z) (h2 : -2147483648 ≤ a) (h3 : z ≤ 2147483647) (hc : ∀ c : Int32, a ≤ c.toInt → c.toInt ≤ z → ¬ inS c) : own_R lo hi 0 :=
  ⟨by rw [ha, hz]; exact h1, by rw [ha]; exact h2, by rw [hz]; exact h3, fun c q1 q2 => if_neg (hc c (ha ▸ q1) (hz ▸ q2))⟩
theorem own_c (lo hi : Int64) (ex : Int32) (R : own_R lo hi ex) (c : Int64) (h : lo.toInt ≤ c.toInt ∧ c.toInt ≤ hi.toInt) : isN c.toInt32 = ex := by
  obtain ⟨h1, h2, h3, h4⟩ := R
  have e := c_l2i c
  have r := rng32 c.toInt32
  exact h4 _ (by omega) (by omega)
theorem own_m (x : Int64) : 0 ≤ (x &&& (9223372036854775807 : Int64)).toInt := by
  have e := c_maskL x (9223372036854775807 : Int64) 63 (by decide) (by decide)
  rw [e]; omega
theorem own_nz (lo hi : Int64) (ex : Int32) (R : own_R lo hi ex) : (hi - lo + (1 : Int64)).toInt = hi.toInt - lo.toInt + 1 := by
  obtain ⟨h1, h2, h3, h4⟩ := R
  have a := c_lsub hi lo
  have b := c_ladd (hi - lo) (1 : Int64)
  have r1 := rng64 (hi - lo)
  have r2 := rng64 (hi - lo + (1 : Int64))
  have l1 : (1 : Int64).toInt = 1 := by decide
  omega
theorem own_nz0 (lo hi : Int64) (ex : Int32) (R : own_R lo hi ex) : hi - lo + (1 : Int64) ≠ 0 := by
  intro q
  have e := own_nz lo hi ex R
  rw [q] at e
  have l0 : (0 : Int64).toInt = 0 := by decide
  obtain ⟨h1, -⟩ := R
  omega
theorem own_rem (lo hi : Int64) (ex : Int32) (R : own_R lo hi ex) (x : Int64) (hx : 0 ≤ x.toInt) : lo.toInt ≤ (lo + (x - (x / (hi - lo + (1 : Int64))) * (hi - lo + (1 : Int64)))).toInt ∧ (lo + (x - (x / (hi - lo + (1 : Int64))) * (hi - lo + (1 : Int64)))).toInt ≤ hi.toInt := by
  have e := own_nz lo hi ex R
  generalize (hi - lo + (1 : Int64)) = d at *
  have a := (c_lrem x d _ rfl).1 hx
  generalize (x - (x / d) * d) = y at *
  have b := c_ladd lo y
  have r := rng64 (lo + y)
  obtain ⟨h1, h2, h3, h4⟩ := R
  have m0 := Int.emod_nonneg x.toInt (b := d.toInt) (by omega)
  have m1 := Int.emod_lt_of_pos x.toInt (b := d.toInt) (by omega)
  omega
theorem own_s (x : Int32) : 0 ≤ ((x &&& (2147483647 : Int32)) % (33 : Int32)).toInt ∧ ((x &&& (2147483647 : Int32)) % (33 : Int32)).toInt < 33 := by
  have a := c_mask x (2147483647 : Int32) 31 (by decide) (by decide)
  have b := c_irem (x &&& (2147483647 : Int32)) (33 : Int32) 33 (by decide)
  omega
theorem own_lit (x : Int32) (k : Int) (y : Int32) (hy : y.toInt = k) (h : x.toInt = k) : x = y := Int32.toInt_inj.mp (h.trans hy.symm)
theorem own_s1 (s : Int32) (h : 0 ≤ s.toInt ∧ s.toInt ≤ 15) : s = (0 : Int32) ∨ s = (1 : Int32) ∨ s = (2 : Int32) ∨ s = (3 : Int32) ∨ s = (4 : Int32) ∨ s = (5 : Int32) ∨ s = (6 : Int32) ∨ s = (7 : Int32) ∨ s = (8 : Int32) ∨ s = (9 : Int32) ∨ s = (10 : Int32) ∨ s = (11 : Int32) ∨ s = (12 : Int32) ∨ s = (13 : Int32) ∨ s = (14 : Int32) ∨ s = (15 : Int32) := by
  have e : s.toInt = 0 ∨ s.toInt = 1 ∨ s.toInt = 2 ∨ s.toInt = 3 ∨ s.toInt = 4 ∨ s.toInt = 5 ∨ s.toInt = 6 ∨ s.toInt = 7 ∨ s.toInt = 8 ∨ s.toInt = 9 ∨ s.toInt = 10 ∨ s.toInt = 11 ∨ s.toInt = 12 ∨ s.toInt = 13 ∨ s.toInt = 14 ∨ s.toInt = 15 := by omega
  rcases e with e | e | e | e | e | e | e | e | e | e | e | e | e | e | e | e
  · exact Or.inl (own_lit s 0 _ (by decide) e)
  · exact Or.inr (Or.inl (own_lit s 1 _ (by decide) e))
  · exact Or.inr (Or.inr (Or.inl (own_lit s 2 _ (by decide) e)))
  · exact Or.inr (Or.inr (Or.inr (Or.inl (own_lit s 3 _ (by decide) e))))
  · exact Or.inr (Or.inr (Or.inr (Or.inr (Or.inl (own_lit s 4 _ (by decide) e)))))
  · exact Or.inr (Or.inr (Or.inr (Or.inr (Or.inr (Or.inl (own_lit s 5 _ (by decide) e))))))
  · exact Or.inr (Or.inr (Or.inr (Or.inr (Or.inr (Or.inr (Or.inl (own_lit s 6 _ (by decide) e)))))))
  · exact Or.inr (Or.inr (Or.inr (Or.inr (Or.inr (Or.inr (Or.inr (Or.inl (own_lit s 7 _ (by decide) e))))))))
  · exact Or.inr (Or.inr (Or.inr (Or.inr (Or.inr (Or.inr (Or.inr (Or.inr (Or.inl (own_lit s 8 _ (by decide) e)))))))))
  · exact Or.inr (Or.inr (Or.inr (Or.inr (Or.inr (Or.inr (Or.inr (Or.inr (Or.inr (Or.inl (own_lit s 9 _ (by decide) e))))))))))
  · exact Or.inr (Or.inr (Or.inr (Or.inr (Or.inr (Or.inr (Or.inr (Or.inr (Or.inr (Or.inr (Or.inl (own_lit s 10 _ (by decide) e)))))))))))
  · exact Or.inr (Or.inr (Or.inr (Or.inr (Or.inr (Or.inr (Or.inr (Or.inr (Or.inr (Or.inr (Or.inr (Or.inl (own_lit s 11 _ (by decide) e))))))))))))
  · exact Or.inr (Or.inr (Or.inr (Or.inr (Or.inr (Or.inr (Or.inr (Or.inr (Or.inr (Or.inr (Or.inr (Or.inr (Or.inl (own_lit s 12 _ (by decide) e)))))))))))))
  · exact Or.inr (Or.inr (Or.inr (Or.inr (Or.inr (Or.inr (Or.inr (Or.inr (Or.inr (Or.inr (Or.inr (Or.inr (Or.inr (Or.inl (own_lit s 13 _ (by decide) e))))))))))))))
  · exact Or.inr (Or.inr (Or.inr (Or.inr (Or.inr (Or.inr (Or.inr (Or.inr (Or.inr (Or.inr (Or.inr (Or.inr (Or.inr (Or.inr (Or.inl (own_lit s 14 _ (by decide) e)))))))))))))))
  · exact Or.inr (Or.inr (Or.inr (Or.inr (Or.inr (Or.inr (Or.inr (Or.inr (Or.inr (Or.inr (Or.inr (Or.inr (Or.inr (Or.inr (Or.inr ((own_lit s 15 _ (by decide) e))))))))))))))))
theorem own_s2 (s : Int32) (h : 16 ≤ s.toInt ∧ s.toInt ≤ 30) : s = (16 : Int32) ∨ s = (17 : Int32) ∨ s = (18 : Int32) ∨ s = (19 : Int32) ∨ s = (20 : Int32) ∨ s = (21 : Int32) ∨ s = (22 : Int32) ∨ s = (23 : Int32) ∨ s = (24 : Int32) ∨ s = (25 : Int32) ∨ s = (26 : Int32) ∨ s = (27 : Int32) ∨ s = (28 : Int32) ∨ s = (29 : Int32) ∨ s = (30 : Int32) := by
  have e : s.toInt = 16 ∨ s.toInt = 17 ∨ s.toInt = 18 ∨ s.toInt = 19 ∨ s.toInt = 20 ∨ s.toInt = 21 ∨ s.toInt = 22 ∨ s.toInt = 23 ∨ s.toInt = 24 ∨ s.toInt = 25 ∨ s.toInt = 26 ∨ s.toInt = 27 ∨ s.toInt = 28 ∨ s.toInt = 29 ∨ s.toInt = 30 := by omega
  rcases e with e | e | e | e | e | e | e | e | e | e | e | e | e | e | e
  · exact Or.inl (own_lit s 16 _ (by decide) e)
  · exact Or.inr (Or.inl (own_lit s 17 _ (by decide) e))
  · exact Or.inr (Or.inr (Or.inl (own_lit s 18 _ (by decide) e)))
  · exact Or.inr (Or.inr (Or.inr (Or.inl (own_lit s 19 _ (by decide) e))))
  · exact Or.inr (Or.inr (Or.inr (Or.inr (Or.inl (own_lit s 20 _ (by decide) e)))))
  · exact Or.inr (Or.inr (Or.inr (Or.inr (Or.inr (Or.inl (own_lit s 21 _ (by decide) e))))))
  · exact Or.inr (Or.inr (Or.inr (Or.inr (Or.inr (Or.inr (Or.inl (own_lit s 22 _ (by decide) e)))))))
  · exact Or.inr (Or.inr (Or.inr (Or.inr (Or.inr (Or.inr (Or.inr (Or.inl (own_lit s 23 _ (by decide) e))))))))
  · exact Or.inr (Or.inr (Or.inr (Or.inr (Or.inr (Or.inr (Or.inr (Or.inr (Or.inl (own_lit s 24 _ (by decide) e)))))))))
  · exact Or.inr (Or.inr (Or.inr (Or.inr (Or.inr (Or.inr (Or.inr (Or.inr (Or.inr (Or.inl (own_lit s 25 _ (by decide) e))))))))))
  · exact Or.inr (Or.inr (Or.inr (Or.inr (Or.inr (Or.inr (Or.inr (Or.inr (Or.inr (Or.inr (Or.inl (own_lit s 26 _ (by decide) e)))))))))))
  · exact Or.inr (Or.inr (Or.inr (Or.inr (Or.inr (Or.inr (Or.inr (Or.inr (Or.inr (Or.inr (Or.inr (Or.inl (own_lit s 27 _ (by decide) e))))))))))))
  · exact Or.inr (Or.inr (Or.inr (Or.inr (Or.inr (Or.inr (Or.inr (Or.inr (Or.inr (Or.inr (Or.inr (Or.inr (Or.inl (own_lit s 28 _ (by decide) e)))))))))))))
  · exact Or.inr (Or.inr (Or.inr (Or.inr (Or.inr (Or.inr (Or.inr (Or.inr (Or.inr (Or.inr (Or.inr (Or.inr (Or.inr (Or.inl (own_lit s 29 _ (by decide) e))))))))))))))
  · exact Or.inr (Or.inr (Or.inr (Or.inr (Or.inr (Or.inr (Or.inr (Or.inr (Or.inr (Or.inr (Or.inr (Or.inr (Or.inr (Or.inr ((own_lit s 30 _ (by decide) e)))))))))))))))
theorem ef_0 (m : MethodId) (p0 : Int32) (p1 : Int32) (q2 : Int64) : entryFrame m #[(.int p0), (.int p1), (.long q2)] maxLocals = mkF m 0 #[.val (.int p0), .val (.int p1), .val (.long q2), .second, .unset, .unset, .unset, .unset, .unset, .unset, .unset, .unset, .unset, .unset, .unset] [] := by first | (simp [entryFrame, mkF, argsToLocals, Value.category, maxLocals]; done) | rfl
def Q0 (Z : State) (p0 : Int32) (p1 : Int32) (q2 : Int64) (h0 : Heap) (n0 : Nat) (v : Option Value) (h : Heap) (L : List Loc) : Prop := v = some (.int 1) ∧ Fr n0 L
set_option maxRecDepth 65536 in
set_option maxHeartbeats 40000000 in
theorem rm0 (l : Launch) (Z : State) (a0 : Array Value) (hw : ∀ d ∈ tables_1, d.before a0 Z = true) (ws : List Jvm.Cond) (p0 : Int32) (p1 : Int32) (q2 : Int64) (h0 : Heap) (n0 : Nat) (Z0 : n0 ≤ h0.size)  :
    MetFree l x (head1 (Jvm.Cond.code x code maxLocals ret :: ws) room_1) (fun a U => a = #[(.int p0), (.int p1), (.long q2)] ∧ Z.Warmed39 U.vm ∧ U.heap = h0) (fun _ _ _ _ _ => True) (fun _ U o U' => ∃ v L, o = .returned v ∧ Q0 Z p0 p1 q2 h0 n0 v U'.heap L ∧ FrameEnd U o U' L 16 128) := by
  refine MetFree.of_bodySF (plainFor_of_name pn1) hisR ?_
  intro p e s m args below meth c s₁ Bd hml0 hP hK
  obtain ⟨rfl, hZ, hh⟩ := hP
  have hx := Bd.exec
  have hby := Bd.bytes
  have hml : c.maxLocals = 15 := hml0
  have hown : s.vm.findClass "com/example/osprey/osprey/pointer/FifthEditionIsNameStartCharPinLaw" = some m.cls := findClass_of_methodNamed Bd.named
  have hnm := (name_of_methodNamed Bd.named Bd.method).1
  have X0 : Stand p l e room_1 s m #[(.int p0), (.int p1), (.long q2)] below meth c s₁ [] 0 0 := Stand.of_body Bd
  have e0 : s₁.heap = h0 := by rw [← hh, Bd.state]; rfl
  have N0 := Fr.nil n0
  show Dn p e below s 16 128 (Q0 Z p0 p1 q2 h0 n0) (s₁.setTop (entryFrame m #[(.int p0), (.int p1), (.long q2)] maxLocals))
  rw [ef_0]
  refine Dn.by (U' := s₁.setTop (mkF m 2 #[.val (.int p0), .val (.int p1), .val (.long q2), .second, .unset, .unset, .unset, .unset, .unset, .unset, .unset, .unset, .unset, .unset, .unset] [(.int (16 : Int32))])) (fun _ ks => XS.bipush X0.here hx rfl (hb hby at_0)  ks) ?_
  obtain ⟨T1, h1, k1, X1, e1, E1, A1, st1⟩ := newP X0 hx hZ (hw _ (List.mem_of_getElem? (i := 0) rfl)) e0 (g := (mkF m 2 #[.val (.int p0), .val (.int p1), .val (.long q2), .second, .unset, .unset, .unset, .unset, .unset, .unset, .unset, .unset, .unset, .unset, .unset] [(.int (16 : Int32))])) rfl (hb hby at_2) rfl (by decide) (cap := 16) (by decide) (by decide) (by decide) (by decide)
  obtain ⟨b1, g1⟩ : ∃ z, z = h0.size := ⟨_, rfl⟩
  rw [← g1] at A1 st1
  have g_b1 : n0 ≤ b1 := Nat.le_trans Z0 (Nat.le_of_eq g1.symm)
  have sz_b1 : h0.size ≤ b1 := Nat.le_trans (Keep.refl h0 []).1 (Nat.le_of_eq g1.symm)
  have K2 : Keep h0 h1 [] := ((Keep.refl h0 []).ext E1)
  have z2 : n0 ≤ h1.size := (Nat.le_trans Z0 E1.1)
  have V1 : Arv Z h1 b1 k1 .long (16 : Int32) [(.long (0 : Int64)), (.long (0 : Int64)), (.long (0 : Int64)), (.long (0 : Int64)), (.long (0 : Int64)), (.long (0 : Int64)), (.long (0 : Int64)), (.long (0 : Int64)), (.long (0 : Int64)), (.long (0 : Int64)), (.long (0 : Int64)), (.long (0 : Int64)), (.long (0 : Int64)), (.long (0 : Int64)), (.long (0 : Int64)), (.long (0 : Int64))] (.long (0 : Int64)) := (Arv.new A1 (by decide)).pad (pad_rep [] (.long (0 : Int64)) 16)
  refine Dn.by (U' := T1.setTop (mkF m 4 #[.val (.int p0), .val (.int p1), .val (.long q2), .second, .unset, .unset, .unset, .unset, .unset, .unset, .unset, .unset, .unset, .unset, .unset] [(.ref b1)])) st1 ?_
  refine Dn.by (U' := T1.setTop (mkF m 5 #[.val (.int p0), .val (.int p1), .val (.long q2), .second, .unset, .unset, .unset, .unset, .unset, .unset, .unset, .unset, .unset, .unset, .unset] [(.ref b1), (.ref b1)])) (fun _ ks => XS.dup X1.here hx rfl (hb hby at_4) rfl rfl ks) ?_
  refine Dn.by (U' := T1.setTop (mkF m 6 #[.val (.int p0), .val (.int p1), .val (.long q2), .second, .unset, .unset, .unset, .unset, .unset, .unset, .unset, .unset, .unset, .unset, .unset] [(.int (0 : Int32)), (.ref b1), (.ref b1)])) (fun _ ks => XS.iconst X1.here hx rfl (hb hby at_5)  ks) ?_
  refine Dn.by (U' := T1.setTop (mkF m 9 #[.val (.int p0), .val (.int p1), .val (.long q2), .second, .unset, .unset, .unset, .unset, .unset, .unset, .unset, .unset, .unset, .unset, .unset] [(.long (58 : Int64)), (.int (0 : Int32)), (.ref b1), (.ref b1)])) (X1.ldc2Long hx hown (mvT hZ (hw _ (List.mem_of_getElem? (i := 1) rfl))) (g := (mkF m 6 #[.val (.int p0), .val (.int p1), .val (.long q2), .second, .unset, .unset, .unset, .unset, .unset, .unset, .unset, .unset, .unset, .unset, .unset] [(.int (0 : Int32)), (.ref b1), (.ref b1)])) rfl (hb hby at_6)) ?_
  obtain ⟨cl3, Ar3, q3, S3, M3, H3, G3⟩ := id V1
  obtain ⟨T3, h3, X3, e3, W3, st3⟩ := stJ X1 hx hZ e1 Ar3 (j := (0 : Int32)) (inb_of S3 ⟨by decide, by decide⟩) (g := (mkF m 9 #[.val (.int p0), .val (.int p1), .val (.long q2), .second, .unset, .unset, .unset, .unset, .unset, .unset, .unset, .unset, .unset, .unset, .unset] [(.long (58 : Int64)), (.int (0 : Int32)), (.ref b1), (.ref b1)])) rfl rfl (hb hby at_9)
  have V3 := Arv.set Ar3 q3 S3 M3 H3 G3 rfl W3 0 rfl (Nat.le_of_ble_eq_true rfl)
  have K4 : Keep h0 h3 [] := (K2.wr W3 (Or.inr sz_b1))
  have z4 : n0 ≤ h3.size := (Nat.le_trans z2 (Keep.of_wr W3).1)
  have V3b : Arv Z h3 b1 k1 .long (16 : Int32) [(.long (58 : Int64)), (.long (0 : Int64)), (.long (0 : Int64)), (.long (0 : Int64)), (.long (0 : Int64)), (.long (0 : Int64)), (.long (0 : Int64)), (.long (0 : Int64)), (.long (0 : Int64)), (.long (0 : Int64)), (.long (0 : Int64)), (.long (0 : Int64)), (.long (0 : Int64)), (.long (0 : Int64)), (.long (0 : Int64)), (.long (0 : Int64))] (.long (0 : Int64)) := V3
  have N3 := Fr.snoc X3 N0 g_b1
  refine Dn.by (U' := T3.setTop (mkF m 10 #[.val (.int p0), .val (.int p1), .val (.long q2), .second, .unset, .unset, .unset, .unset, .unset, .unset, .unset, .unset, .unset, .unset, .unset] [(.ref b1)])) st3 ?_
  refine Dn.by (U' := T3.setTop (mkF m 11 #[.val (.int p0), .val (.int p1), .val (.long q2), .second, .unset, .unset, .unset, .unset, .unset, .unset, .unset, .unset, .unset, .unset, .unset] [(.ref b1), (.ref b1)])) (fun _ ks => XS.dup X3.here hx rfl (hb hby at_10) rfl rfl ks) ?_
  refine Dn.by (U' := T3.setTop (mkF m 12 #[.val (.int p0), .val (.int p1), .val (.long q2), .second, .unset, .unset, .unset, .unset, .unset, .unset, .unset, .unset, .unset, .unset, .unset] [(.int (1 : Int32)), (.ref b1), (.ref b1)])) (fun _ ks => XS.iconst X3.here hx rfl (hb hby at_11)  ks) ?_
  refine Dn.by (U' := T3.setTop (mkF m 15 #[.val (.int p0), .val (.int p1), .val (.long q2), .second, .unset, .unset, .unset, .unset, .unset, .unset, .unset, .unset, .unset, .unset, .unset] [(.long (65 : Int64)), (.int (1 : Int32)), (.ref b1), (.ref b1)])) (X3.ldc2Long hx hown (mvT hZ (hw _ (List.mem_of_getElem? (i := 2) rfl))) (g := (mkF m 12 #[.val (.int p0), .val (.int p1), .val (.long q2), .second, .unset, .unset, .unset, .unset, .unset, .unset, .unset, .unset, .unset, .unset, .unset] [(.int (1 : Int32)), (.ref b1), (.ref b1)])) rfl (hb hby at_12)) ?_
  obtain ⟨cl5, Ar5, q5, S5, M5, H5, G5⟩ := id V3b
  obtain ⟨T5, h5, X5, e5, W5, st5⟩ := stJ X3 hx hZ e3 Ar5 (j := (1 : Int32)) (inb_of S5 ⟨by decide, by decide⟩) (g := (mkF m 15 #[.val (.int p0), .val (.int p1), .val (.long q2), .second, .unset, .unset, .unset, .unset, .unset, .unset, .unset, .unset, .unset, .unset, .unset] [(.long (65 : Int64)), (.int (1 : Int32)), (.ref b1), (.ref b1)])) rfl rfl (hb hby at_15)
  have V5 := Arv.set Ar5 q5 S5 M5 H5 G5 rfl W5 1 rfl (Nat.le_of_ble_eq_true rfl)
  have K6 : Keep h0 h5 [] := (K4.wr W5 (Or.inr sz_b1))
  have z6 : n0 ≤ h5.size := (Nat.le_trans z4 (Keep.of_wr W5).1)
  have V5b : Arv Z h5 b1 k1 .long (16 : Int32) [(.long (58 : Int64)), (.long (65 : Int64)), (.long (0 : Int64)), (.long (0 : Int64)), (.long (0 : Int64)), (.long (0 : Int64)), (.long (0 : Int64)), (.long (0 : Int64)), (.long (0 : Int64)), (.long (0 : Int64)), (.long (0 : Int64)), (.long (0 : Int64)), (.long (0 : Int64)), (.long (0 : Int64)), (.long (0 : Int64)), (.long (0 : Int64))] (.long (0 : Int64)) := V5
  have N5 := Fr.snoc X5 N3 g_b1
  refine Dn.by (U' := T5.setTop (mkF m 16 #[.val (.int p0), .val (.int p1), .val (.long q2), .second, .unset, .unset, .unset, .unset, .unset, .unset, .unset, .unset, .unset, .unset, .unset] [(.ref b1)])) st5 ?_
  refine Dn.by (U' := T5.setTop (mkF m 17 #[.val (.int p0), .val (.int p1), .val (.long q2), .second, .unset, .unset, .unset, .unset, .unset, .unset, .unset, .unset, .unset, .unset, .unset] [(.ref b1), (.ref b1)])) (fun _ ks => XS.dup X5.here hx rfl (hb hby at_16) rfl rfl ks) ?_
  refine Dn.by (U' := T5.setTop (mkF m 18 #[.val (.int p0), .val (.int p1), .val (.long q2), .second, .unset, .unset, .unset, .unset, .unset, .unset, .unset, .unset, .unset, .unset, .unset] [(.int (2 : Int32)), (.ref b1), (.ref b1)])) (fun _ ks => XS.iconst X5.here hx rfl (hb hby at_17)  ks) ?_
  refine Dn.by (U' := T5.setTop (mkF m 21 #[.val (.int p0), .val (.int p1), .val (.long q2), .second, .unset, .unset, .unset, .unset, .unset, .unset, .unset, .unset, .unset, .unset, .unset] [(.long (95 : Int64)), (.int (2 : Int32)), (.ref b1), (.ref b1)])) (X5.ldc2Long hx hown (mvT hZ (hw _ (List.mem_of_getElem? (i := 3) rfl))) (g := (mkF m 18 #[.val (.int p0), .val (.int p1), .val (.long q2), .second, .unset, .unset, .unset, .unset, .unset, .unset, .unset, .unset, .unset, .unset, .unset] [(.int (2 : Int32)), (.ref b1), (.ref b1)])) rfl (hb hby at_18)) ?_
  obtain ⟨cl7, Ar7, q7, S7, M7, H7, G7⟩ := id V5b
  obtain ⟨T7, h7, X7, e7, W7, st7⟩ := stJ X5 hx hZ e5 Ar7 (j := (2 : Int32)) (inb_of S7 ⟨by decide, by decide⟩) (g := (mkF m 21 #[.val (.int p0), .val (.int p1), .val (.long q2), .second, .unset, .unset, .unset, .unset, .unset, .unset, .unset, .unset, .unset, .unset, .unset] [(.long (95 : Int64)), (.int (2 : Int32)), (.ref b1), (.ref b1)])) rfl rfl (hb hby at_21)
  have V7 := Arv.set Ar7 q7 S7 M7 H7 G7 rfl W7 2 rfl (Nat.le_of_ble_eq_true rfl)
  have K8 : Keep h0 h7 [] := (K6.wr W7 (Or.inr sz_b1))
  have z8 : n0 ≤ h7.size := (Nat.le_trans z6 (Keep.of_wr W7).1)
  have V7b : Arv Z h7 b1 k1 .long (16 : Int32) [(.long (58 : Int64)), (.long (65 : Int64)), (.long (95 : Int64)), (.long (0 : Int64)), (.long (0 : Int64)), (.long (0 : Int64)), (.long (0 : Int64)), (.long (0 : Int64)), (.long (0 : Int64)), (.long (0 : Int64)), (.long (0 : Int64)), (.long (0 : Int64)), (.long (0 : Int64)), (.long (0 : Int64)), (.long (0 : Int64)), (.long (0 : Int64))] (.long (0 : Int64)) := V7
  have N7 := Fr.snoc X7 N5 g_b1
  refine Dn.by (U' := T7.setTop (mkF m 22 #[.val (.int p0), .val (.int p1), .val (.long q2), .second, .unset, .unset, .unset, .unset, .unset, .unset, .unset, .unset, .unset, .unset, .unset] [(.ref b1)])) st7 ?_
  refine Dn.by (U' := T7.setTop (mkF m 23 #[.val (.int p0), .val (.int p1), .val (.long q2), .second, .unset, .unset, .unset, .unset, .unset, .unset, .unset, .unset, .unset, .unset, .unset] [(.ref b1), (.ref b1)])) (fun _ ks => XS.dup X7.here hx rfl (hb hby at_22) rfl rfl ks) ?_
  refine Dn.by (U' := T7.setTop (mkF m 24 #[.val (.int p0), .val (.int p1), .val (.long q2), .second, .unset, .unset, .unset, .unset, .unset, .unset, .unset, .unset, .unset, .unset, .unset] [(.int (3 : Int32)), (.ref b1), (.ref b1)])) (fun _ ks => XS.iconst X7.here hx rfl (hb hby at_23)  ks) ?_
  refine Dn.by (U' := T7.setTop (mkF m 27 #[.val (.int p0), .val (.int p1), .val (.long q2), .second, .unset, .unset, .unset, .unset, .unset, .unset, .unset, .unset, .unset, .unset, .unset] [(.long (97 : Int64)), (.int (3 : Int32)), (.ref b1), (.ref b1)])) (X7.ldc2Long hx hown (mvT hZ (hw _ (List.mem_of_getElem? (i := 4) rfl))) (g := (mkF m 24 #[.val (.int p0), .val (.int p1), .val (.long q2), .second, .unset, .unset, .unset, .unset, .unset, .unset, .unset, .unset, .unset, .unset, .unset] [(.int (3 : Int32)), (.ref b1), (.ref b1)])) rfl (hb hby at_24)) ?_
  obtain ⟨cl9, Ar9, q9, S9, M9, H9, G9⟩ := id V7b
  obtain ⟨T9, h9, X9, e9, W9, st9⟩ := stJ X7 hx hZ e7 Ar9 (j := (3 : Int32)) (inb_of S9 ⟨by decide, by decide⟩) (g := (mkF m 27 #[.val (.int p0), .val (.int p1), .val (.long q2), .second, .unset, .unset, .unset, .unset, .unset, .unset, .unset, .unset, .unset, .unset, .unset] [(.long (97 : Int64)), (.int (3 : Int32)), (.ref b1), (.ref b1)])) rfl rfl (hb hby at_27)
  have V9 := Arv.set Ar9 q9 S9 M9 H9 G9 rfl W9 3 rfl (Nat.le_of_ble_eq_true rfl)
  have K10 : Keep h0 h9 [] := (K8.wr W9 (Or.inr sz_b1))
  have z10 : n0 ≤ h9.size := (Nat.le_trans z8 (Keep.of_wr W9).1)
  have V9b : Arv Z h9 b1 k1 .long (16 : Int32) [(.long (58 : Int64)), (.long (65 : Int64)), (.long (95 : Int64)), (.long (97 : Int64)), (.long (0 : Int64)), (.long (0 : Int64)), (.long (0 : Int64)), (.long (0 : Int64)), (.long (0 : Int64)), (.long (0 : Int64)), (.long (0 : Int64)), (.long (0 : Int64)), (.long (0 : Int64)), (.long (0 : Int64)), (.long (0 : Int64)), (.long (0 : Int64))] (.long (0 : Int64)) := V9
  have N9 := Fr.snoc X9 N7 g_b1
  refine Dn.by (U' := T9.setTop (mkF m 28 #[.val (.int p0), .val (.int p1), .val (.long q2), .second, .unset, .unset, .unset, .unset, .unset, .unset, .unset, .unset, .unset, .unset, .unset] [(.ref b1)])) st9 ?_
  refine Dn.by (U' := T9.setTop (mkF m 29 #[.val (.int p0), .val (.int p1), .val (.long q2), .second, .unset, .unset, .unset, .unset, .unset, .unset, .unset, .unset, .unset, .unset, .unset] [(.ref b1), (.ref b1)])) (fun _ ks => XS.dup X9.here hx rfl (hb hby at_28) rfl rfl ks) ?_
  refine Dn.by (U' := T9.setTop (mkF m 30 #[.val (.int p0), .val (.int p1), .val (.long q2), .second, .unset, .unset, .unset, .unset, .unset, .unset, .unset, .unset, .unset, .unset, .unset] [(.int (4 : Int32)), (.ref b1), (.ref b1)])) (fun _ ks => XS.iconst X9.here hx rfl (hb hby at_29)  ks) ?_
  refine Dn.by (U' := T9.setTop (mkF m 33 #[.val (.int p0), .val (.int p1), .val (.long q2), .second, .unset, .unset, .unset, .unset, .unset, .unset, .unset, .unset, .unset, .unset, .unset] [(.long (192 : Int64)), (.int (4 : Int32)), (.ref b1), (.ref b1)])) (X9.ldc2Long hx hown (mvT hZ (hw _ (List.mem_of_getElem? (i := 5) rfl))) (g := (mkF m 30 #[.val (.int p0), .val (.int p1), .val (.long q2), .second, .unset, .unset, .unset, .unset, .unset, .unset, .unset, .unset, .unset, .unset, .unset] [(.int (4 : Int32)), (.ref b1), (.ref b1)])) rfl (hb hby at_30)) ?_
  obtain ⟨cl11, Ar11, q11, S11, M11, H11, G11⟩ := id V9b
  obtain ⟨T11, h11, X11, e11, W11, st11⟩ := stJ X9 hx hZ e9 Ar11 (j := (4 : Int32)) (inb_of S11 ⟨by decide, by decide⟩) (g := (mkF m 33 #[.val (.int p0), .val (.int p1), .val (.long q2), .second, .unset, .unset, .unset, .unset, .unset, .unset, .unset, .unset, .unset, .unset, .unset] [(.long (192 : Int64)), (.int (4 : Int32)), (.ref b1), (.ref b1)])) rfl rfl (hb hby at_33)
  have V11 := Arv.set Ar11 q11 S11 M11 H11 G11 rfl W11 4 rfl (Nat.le_of_ble_eq_true rfl)
  have K12 : Keep h0 h11 [] := (K10.wr W11 (Or.inr sz_b1))
  have z12 : n0 ≤ h11.size := (Nat.le_trans z10 (Keep.of_wr W11).1)
  have V11b : Arv Z h11 b1 k1 .long (16 : Int32) [(.long (58 : Int64)), (.long (65 : Int64)), (.long (95 : Int64)), (.long (97 : Int64)), (.long (192 : Int64)), (.long (0 : Int64)), (.long (0 : Int64)), (.long (0 : Int64)), (.long (0 : Int64)), (.long (0 : Int64)), (.long (0 : Int64)), (.long (0 : Int64)), (.long (0 : Int64)), (.long (0 : Int64)), (.long (0 : Int64)), (.long (0 : Int64))] (.long (0 : Int64)) := V11
  have N11 := Fr.snoc X11 N9 g_b1
  refine Dn.by (U' := T11.setTop (mkF m 34 #[.val (.int p0), .val (.int p1), .val (.long q2), .second, .unset, .unset, .unset, .unset, .unset, .unset, .unset, .unset, .unset, .unset, .unset] [(.ref b1)])) st11 ?_
  refine Dn.by (U' := T11.setTop (mkF m 35 #[.val (.int p0), .val (.int p1), .val (.long q2), .second, .unset, .unset, .unset, .unset, .unset, .unset, .unset, .unset, .unset, .unset, .unset] [(.ref b1), (.ref b1)])) (fun _ ks => XS.dup X11.here hx rfl (hb hby at_34) rfl rfl ks) ?_
  refine Dn.by (U' := T11.setTop (mkF m 36 #[.val (.int p0), .val (.int p1), .val (.long q2), .second, .unset, .unset, .unset, .unset, .unset, .unset, .unset, .unset, .unset, .unset, .unset] [(.int (5 : Int32)), (.ref b1), (.ref b1)])) (fun _ ks => XS.iconst X11.here hx rfl (hb hby at_35)  ks) ?_
  refine Dn.by (U' := T11.setTop (mkF m 39 #[.val (.int p0), .val (.int p1), .val (.long q2), .second, .unset, .unset, .unset, .unset, .unset, .unset, .unset, .unset, .unset, .unset, .unset] [(.long (216 : Int64)), (.int (5 : Int32)), (.ref b1), (.ref b1)])) (X11.ldc2Long hx hown (mvT hZ (hw _ (List.mem_of_getElem? (i := 6) rfl))) (g := (mkF m 36 #[.val (.int p0), .val (.int p1), .val (.long q2), .second, .unset, .unset, .unset, .unset, .unset, .unset, .unset, .unset, .unset, .unset, .unset] [(.int (5 : Int32)), (.ref b1), (.ref b1)])) rfl (hb hby at_36)) ?_
  obtain ⟨cl13, Ar13, q13, S13, M13, H13, G13⟩ := id V11b
  obtain ⟨T13, h13, X13, e13, W13, st13⟩ := stJ X11 hx hZ e11 Ar13 (j := (5 : Int32)) (inb_of S13 ⟨by decide, by decide⟩) (g := (mkF m 39 #[.val (.int p0), .val (.int p1), .val (.long q2), .second, .unset, .unset, .unset, .unset, .unset, .unset, .unset, .unset, .unset, .unset, .unset] [(.long (216 : Int64)), (.int (5 : Int32)), (.ref b1), (.ref b1)])) rfl rfl (hb hby at_39)
  have V13 := Arv.set Ar13 q13 S13 M13 H13 G13 rfl W13 5 rfl (Nat.le_of_ble_eq_true rfl)
  have K14 : Keep h0 h13 [] := (K12.wr W13 (Or.inr sz_b1))
  have z14 : n0 ≤ h13.size := (Nat.le_trans z12 (Keep.of_wr W13).1)
  have V13b : Arv Z h13 b1 k1 .long (16 : Int32) [(.long (58 : Int64)), (.long (65 : Int64)), (.long (95 : Int64)), (.long (97 : Int64)), (.long (192 : Int64)), (.long (216 : Int64)), (.long (0 : Int64)), (.long (0 : Int64)), (.long (0 : Int64)), (.long (0 : Int64)), (.long (0 : Int64)), (.long (0 : Int64)), (.long (0 : Int64)), (.long (0 : Int64)), (.long (0 : Int64)), (.long (0 : Int64))] (.long (0 : Int64)) := V13
  have N13 := Fr.snoc X13 N11 g_b1
  refine Dn.by (U' := T13.setTop (mkF m 40 #[.val (.int p0), .val (.int p1), .val (.long q2), .second, .unset, .unset, .unset, .unset, .unset, .unset, .unset, .unset, .unset, .unset, .unset] [(.ref b1)])) st13 ?_
  refine Dn.by (U' := T13.setTop (mkF m 41 #[.val (.int p0), .val (.int p1), .val (.long q2), .second, .unset, .unset, .unset, .unset, .unset, .unset, .unset, .unset, .unset, .unset, .unset] [(.ref b1), (.ref b1)])) (fun _ ks => XS.dup X13.here hx rfl (hb hby at_40) rfl rfl ks) ?_
  refine Dn.by (U' := T13.setTop (mkF m 43 #[.val (.int p0), .val (.int p1), .val (.long q2), .second, .unset, .unset, .unset, .unset, .unset, .unset, .unset, .unset, .unset, .unset, .unset] [(.int (6 : Int32)), (.ref b1), (.ref b1)])) (fun _ ks => XS.bipush X13.here hx rfl (hb hby at_41)  ks) ?_
  refine Dn.by (U' := T13.setTop (mkF m 46 #[.val (.int p0), .val (.int p1), .val (.long q2), .second, .unset, .unset, .unset, .unset, .unset, .unset, .unset, .unset, .unset, .unset, .unset] [(.long (248 : Int64)), (.int (6 : Int32)), (.ref b1), (.ref b1)])) (X13.ldc2Long hx hown (mvT hZ (hw _ (List.mem_of_getElem? (i := 7) rfl))) (g := (mkF m 43 #[.val (.int p0), .val (.int p1), .val (.long q2), .second, .unset, .unset, .unset, .unset, .unset, .unset, .unset, .unset, .unset, .unset, .unset] [(.int (6 : Int32)), (.ref b1), (.ref b1)])) rfl (hb hby at_43)) ?_
  obtain ⟨cl15, Ar15, q15, S15, M15, H15, G15⟩ := id V13b
  obtain ⟨T15, h15, X15, e15, W15, st15⟩ := stJ X13 hx hZ e13 Ar15 (j := (6 : Int32)) (inb_of S15 ⟨by decide, by decide⟩) (g := (mkF m 46 #[.val (.int p0), .val (.int p1), .val (.long q2), .second, .unset, .unset, .unset, .unset, .unset, .unset, .unset, .unset, .unset, .unset, .unset] [(.long (248 : Int64)), (.int (6 : Int32)), (.ref b1), (.ref b1)])) rfl rfl (hb hby at_46)
  have V15 := Arv.set Ar15 q15 S15 M15 H15 G15 rfl W15 6 rfl (Nat.le_of_ble_eq_true rfl)
  have K16 : Keep h0 h15 [] := (K14.wr W15 (Or.inr sz_b1))
  have z16 : n0 ≤ h15.size := (Nat.le_trans z14 (Keep.of_wr W15).1)
  have V15b : Arv Z h15 b1 k1 .long (16 : Int32) [(.long (58 : Int64)), (.long (65 : Int64)), (.long (95 : Int64)), (.long (97 : Int64)), (.long (192 : Int64)), (.long (216 : Int64)), (.long (248 : Int64)), (.long (0 : Int64)), (.long (0 : Int64)), (.long (0 : Int64)), (.long (0 : Int64)), (.long (0 : Int64)), (.long (0 : Int64)), (.long (0 : Int64)), (.long (0 : Int64)), (.long (0 : Int64))] (.long (0 : Int64)) := V15
  have N15 := Fr.snoc X15 N13 g_b1
  refine Dn.by (U' := T15.setTop (mkF m 47 #[.val (.int p0), .val (.int p1), .val (.long q2), .second, .unset, .unset, .unset, .unset, .unset, .unset, .unset, .unset, .unset, .unset, .unset] [(.ref b1)])) st15 ?_
  refine Dn.by (U' := T15.setTop (mkF m 48 #[.val (.int p0), .val (.int p1), .val (.long q2), .second, .unset, .unset, .unset, .unset, .unset, .unset, .unset, .unset, .unset, .unset, .unset] [(.ref b1), (.ref b1)])) (fun _ ks => XS.dup X15.here hx rfl (hb hby at_47) rfl rfl ks) ?_
  refine Dn.by (U' := T15.setTop (mkF m 50 #[.val (.int p0), .val (.int p1), .val (.long q2), .second, .unset, .unset, .unset, .unset, .unset, .unset, .unset, .unset, .unset, .unset, .unset] [(.int (7 : Int32)), (.ref b1), (.ref b1)])) (fun _ ks => XS.bipush X15.here hx rfl (hb hby at_48)  ks) ?_
  refine Dn.by (U' := T15.setTop (mkF m 53 #[.val (.int p0), .val (.int p1), .val (.long q2), .second, .unset, .unset, .unset, .unset, .unset, .unset, .unset, .unset, .unset, .unset, .unset] [(.long (880 : Int64)), (.int (7 : Int32)), (.ref b1), (.ref b1)])) (X15.ldc2Long hx hown (mvT hZ (hw _ (List.mem_of_getElem? (i := 8) rfl))) (g := (mkF m 50 #[.val (.int p0), .val (.int p1), .val (.long q2), .second, .unset, .unset, .unset, .unset, .unset, .unset, .unset, .unset, .unset, .unset, .unset] [(.int (7 : Int32)), (.ref b1), (.ref b1)])) rfl (hb hby at_50)) ?_
  obtain ⟨cl17, Ar17, q17, S17, M17, H17, G17⟩ := id V15b
  obtain ⟨T17, h17, X17, e17, W17, st17⟩ := stJ X15 hx hZ e15 Ar17 (j := (7 : Int32)) (inb_of S17 ⟨by decide, by decide⟩) (g := (mkF m 53 #[.val (.int p0), .val (.int p1), .val (.long q2), .second, .unset, .unset, .unset, .unset, .unset, .unset, .unset, .unset, .unset, .unset, .unset] [(.long (880 : Int64)), (.int (7 : Int32)), (.ref b1), (.ref b1)])) rfl rfl (hb hby at_53)
  have V17 := Arv.set Ar17 q17 S17 M17 H17 G17 rfl W17 7 rfl (Nat.le_of_ble_eq_true rfl)
  have K18 : Keep h0 h17 [] := (K16.wr W17 (Or.inr sz_b1))
  have z18 : n0 ≤ h17.size := (Nat.le_trans z16 (Keep.of_wr W17).1)
  have V17b : Arv Z h17 b1 k1 .long (16 : Int32) [(.long (58 : Int64)), (.long (65 : Int64)), (.long (95 : Int64)), (.long (97 : Int64)), (.long (192 : Int64)), (.long (216 : Int64)), (.long (248 : Int64)), (.long (880 : Int64)), (.long (0 : Int64)), (.long (0 : Int64)), (.long (0 : Int64)), (.long (0 : Int64)), (.long (0 : Int64)), (.long (0 : Int64)), (.long (0 : Int64)), (.long (0 : Int64))] (.long (0 : Int64)) := V17
  have N17 := Fr.snoc X17 N15 g_b1
  refine Dn.by (U' := T17.setTop (mkF m 54 #[.val (.int p0), .val (.int p1), .val (.long q2), .second, .unset, .unset, .unset, .unset, .unset, .unset, .unset, .unset, .unset, .unset, .unset] [(.ref b1)])) st17 ?_
  refine Dn.by (U' := T17.setTop (mkF m 55 #[.val (.int p0), .val (.int p1), .val (.long q2), .second, .unset, .unset, .unset, .unset, .unset, .unset, .unset, .unset, .unset, .unset, .unset] [(.ref b1), (.ref b1)])) (fun _ ks => XS.dup X17.here hx rfl (hb hby at_54) rfl rfl ks) ?_
  refine Dn.by (U' := T17.setTop (mkF m 57 #[.val (.int p0), .val (.int p1), .val (.long q2), .second, .unset, .unset, .unset, .unset, .unset, .unset, .unset, .unset, .unset, .unset, .unset] [(.int (8 : Int32)), (.ref b1), (.ref b1)])) (fun _ ks => XS.bipush X17.here hx rfl (hb hby at_55)  ks) ?_
  refine Dn.by (U' := T17.setTop (mkF m 60 #[.val (.int p0), .val (.int p1), .val (.long q2), .second, .unset, .unset, .unset, .unset, .unset, .unset, .unset, .unset, .unset, .unset, .unset] [(.long (895 : Int64)), (.int (8 : Int32)), (.ref b1), (.ref b1)])) (X17.ldc2Long hx hown (mvT hZ (hw _ (List.mem_of_getElem? (i := 9) rfl))) (g := (mkF m 57 #[.val (.int p0), .val (.int p1), .val (.long q2), .second, .unset, .unset, .unset, .unset, .unset, .unset, .unset, .unset, .unset, .unset, .unset] [(.int (8 : Int32)), (.ref b1), (.ref b1)])) rfl (hb hby at_57)) ?_
  obtain ⟨cl19, Ar19, q19, S19, M19, H19, G19⟩ := id V17b
  obtain ⟨T19, h19, X19, e19, W19, st19⟩ := stJ X17 hx hZ e17 Ar19 (j := (8 : Int32)) (inb_of S19 ⟨by decide, by decide⟩) (g := (mkF m 60 #[.val (.int p0), .val (.int p1), .val (.long q2), .second, .unset, .unset, .unset, .unset, .unset, .unset, .unset, .unset, .unset, .unset, .unset] [(.long (895 : Int64)), (.int (8 : Int32)), (.ref b1), (.ref b1)])) rfl rfl (hb hby at_60)
  have V19 := Arv.set Ar19 q19 S19 M19 H19 G19 rfl W19 8 rfl (Nat.le_of_ble_eq_true rfl)
  have K20 : Keep h0 h19 [] := (K18.wr W19 (Or.inr sz_b1))
  have z20 : n0 ≤ h19.size := (Nat.le_trans z18 (Keep.of_wr W19).1)
  have V19b : Arv Z h19 b1 k1 .long (16 : Int32) [(.long (58 : Int64)), (.long (65 : Int64)), (.long (95 : Int64)), (.long (97 : Int64)), (.long (192 : Int64)), (.long (216 : Int64)), (.long (248 : Int64)), (.long (880 : Int64)), (.long (895 : Int64)), (.long (0 : Int64)), (.long (0 : Int64)), (.long (0 : Int64)), (.long (0 : Int64)), (.long (0 : Int64)), (.long (0 : Int64)), (.long (0 : Int64))] (.long (0 : Int64)) := V19
  have N19 := Fr.snoc X19 N17 g_b1
  refine Dn.by (U' := T19.setTop (mkF m 61 #[.val (.int p0), .val (.int p1), .val (.long q2), .second, .unset, .unset, .unset, .unset, .unset, .unset, .unset, .unset, .unset, .unset, .unset] [(.ref b1)])) st19 ?_
  refine Dn.by (U' := T19.setTop (mkF m 62 #[.val (.int p0), .val (.int p1), .val (.long q2), .second, .unset, .unset, .unset, .unset, .unset, .unset, .unset, .unset, .unset, .unset, .unset] [(.ref b1), (.ref b1)])) (fun _ ks => XS.dup X19.here hx rfl (hb hby at_61) rfl rfl ks) ?_
  refine Dn.by (U' := T19.setTop (mkF m 64 #[.val (.int p0), .val (.int p1), .val (.long q2), .second, .unset, .unset, .unset, .unset, .unset, .unset, .unset, .unset, .unset, .unset, .unset] [(.int (9 : Int32)), (.ref b1), (.ref b1)])) (fun _ ks => XS.bipush X19.here hx rfl (hb hby at_62)  ks) ?_
  refine Dn.by (U' := T19.setTop (mkF m 67 #[.val (.int p0), .val (.int p1), .val (.long q2), .second, .unset, .unset, .unset, .unset, .unset, .unset, .unset, .unset, .unset, .unset, .unset] [(.long (8204 : Int64)), (.int (9 : Int32)), (.ref b1), (.ref b1)])) (X19.ldc2Long hx hown (mvT hZ (hw _ (List.mem_of_getElem? (i := 10) rfl))) (g := (mkF m 64 #[.val (.int p0), .val (.int p1), .val (.long q2), .second, .unset, .unset, .unset, .unset, .unset, .unset, .unset, .unset, .unset, .unset, .unset] [(.int (9 : Int32)), (.ref b1), (.ref b1)])) rfl (hb hby at_64)) ?_
  obtain ⟨cl21, Ar21, q21, S21, M21, H21, G21⟩ := id V19b
  obtain ⟨T21, h21, X21, e21, W21, st21⟩ := stJ X19 hx hZ e19 Ar21 (j := (9 : Int32)) (inb_of S21 ⟨by decide, by decide⟩) (g := (mkF m 67 #[.val (.int p0), .val (.int p1), .val (.long q2), .second, .unset, .unset, .unset, .unset, .unset, .unset, .unset, .unset, .unset, .unset, .unset] [(.long (8204 : Int64)), (.int (9 : Int32)), (.ref b1), (.ref b1)])) rfl rfl (hb hby at_67)
  have V21 := Arv.set Ar21 q21 S21 M21 H21 G21 rfl W21 9 rfl (Nat.le_of_ble_eq_true rfl)
  have K22 : Keep h0 h21 [] := (K20.wr W21 (Or.inr sz_b1))
  have z22 : n0 ≤ h21.size := (Nat.le_trans z20 (Keep.of_wr W21).1)
  have V21b : Arv Z h21 b1 k1 .long (16 : Int32) [(.long (58 : Int64)), (.long (65 : Int64)), (.long (95 : Int64)), (.long (97 : Int64)), (.long (192 : Int64)), (.long (216 : Int64)), (.long (248 : Int64)), (.long (880 : Int64)), (.long (895 : Int64)), (.long (8204 : Int64)), (.long (0 : Int64)), (.long (0 : Int64)), (.long (0 : Int64)), (.long (0 : Int64)), (.long (0 : Int64)), (.long (0 : Int64))] (.long (0 : Int64)) := V21
  have N21 := Fr.snoc X21 N19 g_b1
  refine Dn.by (U' := T21.setTop (mkF m 68 #[.val (.int p0), .val (.int p1), .val (.long q2), .second, .unset, .unset, .unset, .unset, .unset, .unset, .unset, .unset, .unset, .unset, .unset] [(.ref b1)])) st21 ?_
  refine Dn.by (U' := T21.setTop (mkF m 69 #[.val (.int p0), .val (.int p1), .val (.long q2), .second, .unset, .unset, .unset, .unset, .unset, .unset, .unset, .unset, .unset, .unset, .unset] [(.ref b1), (.ref b1)])) (fun _ ks => XS.dup X21.here hx rfl (hb hby at_68) rfl rfl ks) ?_
  refine Dn.by (U' := T21.setTop (mkF m 71 #[.val (.int p0), .val (.int p1), .val (.long q2), .second, .unset, .unset, .unset, .unset, .unset, .unset, .unset, .unset, .unset, .unset, .unset] [(.int (10 : Int32)), (.ref b1), (.ref b1)])) (fun _ ks => XS.bipush X21.here hx rfl (hb hby at_69)  ks) ?_
  refine Dn.by (U' := T21.setTop (mkF m 74 #[.val (.int p0), .val (.int p1), .val (.long q2), .second, .unset, .unset, .unset, .unset, .unset, .unset, .unset, .unset, .unset, .unset, .unset] [(.long (8304 : Int64)), (.int (10 : Int32)), (.ref b1), (.ref b1)])) (X21.ldc2Long hx hown (mvT hZ (hw _ (List.mem_of_getElem? (i := 11) rfl))) (g := (mkF m 71 #[.val (.int p0), .val (.int p1), .val (.long q2), .second, .unset, .unset, .unset, .unset, .unset, .unset, .unset, .unset, .unset, .unset, .unset] [(.int (10 : Int32)), (.ref b1), (.ref b1)])) rfl (hb hby at_71)) ?_
  obtain ⟨cl23, Ar23, q23, S23, M23, H23, G23⟩ := id V21b
  obtain ⟨T23, h23, X23, e23, W23, st23⟩ := stJ X21 hx hZ e21 Ar23 (j := (10 : Int32)) (inb_of S23 ⟨by decide, by decide⟩) (g := (mkF m 74 #[.val (.int p0), .val (.int p1), .val (.long q2), .second, .unset, .unset, .unset, .unset, .unset, .unset, .unset, .unset, .unset, .unset, .unset] [(.long (8304 : Int64)), (.int (10 : Int32)), (.ref b1), (.ref b1)])) rfl rfl (hb hby at_74)
  have V23 := Arv.set Ar23 q23 S23 M23 H23 G23 rfl W23 10 rfl (Nat.le_of_ble_eq_true rfl)
  have K24 : Keep h0 h23 [] := (K22.wr W23 (Or.inr sz_b1))
  have z24 : n0 ≤ h23.size := (Nat.le_trans z22 (Keep.of_wr W23).1)
  have V23b : Arv Z h23 b1 k1 .long (16 : Int32) [(.long (58 : Int64)), (.long (65 : Int64)), (.long (95 : Int64)), (.long (97 : Int64)), (.long (192 : Int64)), (.long (216 : Int64)), (.long (248 : Int64)), (.long (880 : Int64)), (.long (895 : Int64)), (.long (8204 : Int64)), (.long (8304 : Int64)), (.long (0 : Int64)), (.long (0 : Int64)), (.long (0 : Int64)), (.long (0 : Int64)), (.long (0 : Int64))] (.long (0 : Int64)) := V23
  have N23 := Fr.snoc X23 N21 g_b1
  refine Dn.by (U' := T23.setTop (mkF m 75 #[.val (.int p0), .val (.int p1), .val (.long q2), .second, .unset, .unset, .unset, .unset, .unset, .unset, .unset, .unset, .unset, .unset, .unset] [(.ref b1)])) st23 ?_
  refine Dn.by (U' := T23.setTop (mkF m 76 #[.val (.int p0), .val (.int p1), .val (.long q2), .second, .unset, .unset, .unset, .unset, .unset, .unset, .unset, .unset, .unset, .unset, .unset] [(.ref b1), (.ref b1)])) (fun _ ks => XS.dup X23.here hx rfl (hb hby at_75) rfl rfl ks) ?_
  refine Dn.by (U' := T23.setTop (mkF m 78 #[.val (.int p0), .val (.int p1), .val (.long q2), .second, .unset, .unset, .unset, .unset, .unset, .unset, .unset, .unset, .unset, .unset, .unset] [(.int (11 : Int32)), (.ref b1), (.ref b1)])) (fun _ ks => XS.bipush X23.here hx rfl (hb hby at_76)  ks) ?_
  refine Dn.by (U' := T23.setTop (mkF m 81 #[.val (.int p0), .val (.int p1), .val (.long q2), .second, .unset, .unset, .unset, .unset, .unset, .unset, .unset, .unset, .unset, .unset, .unset] [(.long (11264 : Int64)), (.int (11 : Int32)), (.ref b1), (.ref b1)])) (X23.ldc2Long hx hown (mvT hZ (hw _ (List.mem_of_getElem? (i := 12) rfl))) (g := (mkF m 78 #[.val (.int p0), .val (.int p1), .val (.long q2), .second, .unset, .unset, .unset, .unset, .unset, .unset, .unset, .unset, .unset, .unset, .unset] [(.int (11 : Int32)), (.ref b1), (.ref b1)])) rfl (hb hby at_78)) ?_
  obtain ⟨cl25, Ar25, q25, S25, M25, H25, G25⟩ := id V23b
  obtain ⟨T25, h25, X25, e25, W25, st25⟩ := stJ X23 hx hZ e23 Ar25 (j := (11 : Int32)) (inb_of S25 ⟨by decide, by decide⟩) (g := (mkF m 81 #[.val (.int p0), .val (.int p1), .val (.long q2), .second, .unset, .unset, .unset, .unset, .unset, .unset, .unset, .unset, .unset, .unset, .unset] [(.long (11264 : Int64)), (.int (11 : Int32)), (.ref b1), (.ref b1)])) rfl rfl (hb hby at_81)
  have V25 := Arv.set Ar25 q25 S25 M25 H25 G25 rfl W25 11 rfl (Nat.le_of_ble_eq_true rfl)
  have K26 : Keep h0 h25 [] := (K24.wr W25 (Or.inr sz_b1))
  have z26 : n0 ≤ h25.size := (Nat.le_trans z24 (Keep.of_wr W25).1)
  have V25b : Arv Z h25 b1 k1 .long (16 : Int32) [(.long (58 : Int64)), (.long (65 : Int64)), (.long (95 : Int64)), (.long (97 : Int64)), (.long (192 : Int64)), (.long (216 : Int64)), (.long (248 : Int64)), (.long (880 : Int64)), (.long (895 : Int64)), (.long (8204 : Int64)), (.long (8304 : Int64)), (.long (11264 : Int64)), (.long (0 : Int64)), (.long (0 : Int64)), (.long (0 : Int64)), (.long (0 : Int64))] (.long (0 : Int64)) := V25
  have N25 := Fr.snoc X25 N23 g_b1
  refine Dn.by (U' := T25.setTop (mkF m 82 #[.val (.int p0), .val (.int p1), .val (.long q2), .second, .unset, .unset, .unset, .unset, .unset, .unset, .unset, .unset, .unset, .unset, .unset] [(.ref b1)])) st25 ?_
  refine Dn.by (U' := T25.setTop (mkF m 83 #[.val (.int p0), .val (.int p1), .val (.long q2), .second, .unset, .unset, .unset, .unset, .unset, .unset, .unset, .unset, .unset, .unset, .unset] [(.ref b1), (.ref b1)])) (fun _ ks => XS.dup X25.here hx rfl (hb hby at_82) rfl rfl ks) ?_
  refine Dn.by (U' := T25.setTop (mkF m 85 #[.val (.int p0), .val (.int p1), .val (.long q2), .second, .unset, .unset, .unset, .unset, .unset, .unset, .unset, .unset, .unset, .unset, .unset] [(.int (12 : Int32)), (.ref b1), (.ref b1)])) (fun _ ks => XS.bipush X25.here hx rfl (hb hby at_83)  ks) ?_
  refine Dn.by (U' := T25.setTop (mkF m 88 #[.val (.int p0), .val (.int p1), .val (.long q2), .second, .unset, .unset, .unset, .unset, .unset, .unset, .unset, .unset, .unset, .unset, .unset] [(.long (12289 : Int64)), (.int (12 : Int32)), (.ref b1), (.ref b1)])) (X25.ldc2Long hx hown (mvT hZ (hw _ (List.mem_of_getElem? (i := 13) rfl))) (g := (mkF m 85 #[.val (.int p0), .val (.int p1), .val (.long q2), .second, .unset, .unset, .unset, .unset, .unset, .unset, .unset, .unset, .unset, .unset, .unset] [(.int (12 : Int32)), (.ref b1), (.ref b1)])) rfl (hb hby at_85)) ?_
  obtain ⟨cl27, Ar27, q27, S27, M27, H27, G27⟩ := id V25b
  obtain ⟨T27, h27, X27, e27, W27, st27⟩ := stJ X25 hx hZ e25 Ar27 (j := (12 : Int32)) (inb_of S27 ⟨by decide, by decide⟩) (g := (mkF m 88 #[.val (.int p0), .val (.int p1), .val (.long q2), .second, .unset, .unset, .unset, .unset, .unset, .unset, .unset, .unset, .unset, .unset, .unset] [(.long (12289 : Int64)), (.int (12 : Int32)), (.ref b1), (.ref b1)])) rfl rfl (hb hby at_88)
  have V27 := Arv.set Ar27 q27 S27 M27 H27 G27 rfl W27 12 rfl (Nat.le_of_ble_eq_true rfl)
  have K28 : Keep h0 h27 [] := (K26.wr W27 (Or.inr sz_b1))
  have z28 : n0 ≤ h27.size := (Nat.le_trans z26 (Keep.of_wr W27).1)
  have V27b : Arv Z h27 b1 k1 .long (16 : Int32) [(.long (58 : Int64)), (.long (65 : Int64)), (.long (95 : Int64)), (.long (97 : Int64)), (.long (192 : Int64)), (.long (216 : Int64)), (.long (248 : Int64)), (.long (880 : Int64)), (.long (895 : Int64)), (.long (8204 : Int64)), (.long (8304 : Int64)), (.long (11264 : Int64)), (.long (12289 : Int64)), (.long (0 : Int64)), (.long (0 : Int64)), (.long (0 : Int64))] (.long (0 : Int64)) := V27
  have N27 := Fr.snoc X27 N25 g_b1
  refine Dn.by (U' := T27.setTop (mkF m 89 #[.val (.int p0), .val (.int p1), .val (.long q2), .second, .unset, .unset, .unset, .unset, .unset, .unset, .unset, .unset, .unset, .unset, .unset] [(.ref b1)])) st27 ?_
  refine Dn.by (U' := T27.setTop (mkF m 90 #[.val (.int p0), .val (.int p1), .val (.long q2), .second, .unset, .unset, .unset, .unset, .unset, .unset, .unset, .unset, .unset, .unset, .unset] [(.ref b1), (.ref b1)])) (fun _ ks => XS.dup X27.here hx rfl (hb hby at_89) rfl rfl ks) ?_
  refine Dn.by (U' := T27.setTop (mkF m 92 #[.val (.int p0), .val (.int p1), .val (.long q2), .second, .unset, .unset, .unset, .unset, .unset, .unset, .unset, .unset, .unset, .unset, .unset] [(.int (13 : Int32)), (.ref b1), (.ref b1)])) (fun _ ks => XS.bipush X27.here hx rfl (hb hby at_90)  ks) ?_
  refine Dn.by (U' := T27.setTop (mkF m 95 #[.val (.int p0), .val (.int p1), .val (.long q2), .second, .unset, .unset, .unset, .unset, .unset, .unset, .unset, .unset, .unset, .unset, .unset] [(.long (63744 : Int64)), (.int (13 : Int32)), (.ref b1), (.ref b1)])) (X27.ldc2Long hx hown (mvT hZ (hw _ (List.mem_of_getElem? (i := 14) rfl))) (g := (mkF m 92 #[.val (.int p0), .val (.int p1), .val (.long q2), .second, .unset, .unset, .unset, .unset, .unset, .unset, .unset, .unset, .unset, .unset, .unset] [(.int (13 : Int32)), (.ref b1), (.ref b1)])) rfl (hb hby at_92)) ?_
  obtain ⟨cl29, Ar29, q29, S29, M29, H29, G29⟩ := id V27b
  obtain ⟨T29, h29, X29, e29, W29, st29⟩ := stJ X27 hx hZ e27 Ar29 (j := (13 : Int32)) (inb_of S29 ⟨by decide, by decide⟩) (g := (mkF m 95 #[.val (.int p0), .val (.int p1), .val (.long q2), .second, .unset, .unset, .unset, .unset, .unset, .unset, .unset, .unset, .unset, .unset, .unset] [(.long (63744 : Int64)), (.int (13 : Int32)), (.ref b1), (.ref b1)])) rfl rfl (hb hby at_95)
  have V29 := Arv.set Ar29 q29 S29 M29 H29 G29 rfl W29 13 rfl (Nat.le_of_ble_eq_true rfl)
  have K30 : Keep h0 h29 [] := (K28.wr W29 (Or.inr sz_b1))
  have z30 : n0 ≤ h29.size := (Nat.le_trans z28 (Keep.of_wr W29).1)
  have V29b : Arv Z h29 b1 k1 .long (16 : Int32) [(.long (58 : Int64)), (.long (65 : Int64)), (.long (95 : Int64)), (.long (97 : Int64)), (.long (192 : Int64)), (.long (216 : Int64)), (.long (248 : Int64)), (.long (880 : Int64)), (.long (895 : Int64)), (.long (8204 : Int64)), (.long (8304 : Int64)), (.long (11264 : Int64)), (.long (12289 : Int64)), (.long (63744 : Int64)), (.long (0 : Int64)), (.long (0 : Int64))] (.long (0 : Int64)) := V29
  have N29 := Fr.snoc X29 N27 g_b1
  refine Dn.by (U' := T29.setTop (mkF m 96 #[.val (.int p0), .val (.int p1), .val (.long q2), .second, .unset, .unset, .unset, .unset, .unset, .unset, .unset, .unset, .unset, .unset, .unset] [(.ref b1)])) st29 ?_
  refine Dn.by (U' := T29.setTop (mkF m 97 #[.val (.int p0), .val (.int p1), .val (.long q2), .second, .unset, .unset, .unset, .unset, .unset, .unset, .unset, .unset, .unset, .unset, .unset] [(.ref b1), (.ref b1)])) (fun _ ks => XS.dup X29.here hx rfl (hb hby at_96) rfl rfl ks) ?_
  refine Dn.by (U' := T29.setTop (mkF m 99 #[.val (.int p0), .val (.int p1), .val (.long q2), .second, .unset, .unset, .unset, .unset, .unset, .unset, .unset, .unset, .unset, .unset, .unset] [(.int (14 : Int32)), (.ref b1), (.ref b1)])) (fun _ ks => XS.bipush X29.here hx rfl (hb hby at_97)  ks) ?_
  refine Dn.by (U' := T29.setTop (mkF m 102 #[.val (.int p0), .val (.int p1), .val (.long q2), .second, .unset, .unset, .unset, .unset, .unset, .unset, .unset, .unset, .unset, .unset, .unset] [(.long (65008 : Int64)), (.int (14 : Int32)), (.ref b1), (.ref b1)])) (X29.ldc2Long hx hown (mvT hZ (hw _ (List.mem_of_getElem? (i := 15) rfl))) (g := (mkF m 99 #[.val (.int p0), .val (.int p1), .val (.long q2), .second, .unset, .unset, .unset, .unset, .unset, .unset, .unset, .unset, .unset, .unset, .unset] [(.int (14 : Int32)), (.ref b1), (.ref b1)])) rfl (hb hby at_99)) ?_
  obtain ⟨cl31, Ar31, q31, S31, M31, H31, G31⟩ := id V29b
  obtain ⟨T31, h31, X31, e31, W31, st31⟩ := stJ X29 hx hZ e29 Ar31 (j := (14 : Int32)) (inb_of S31 ⟨by decide, by decide⟩) (g := (mkF m 102 #[.val (.int p0), .val (.int p1), .val (.long q2), .second, .unset, .unset, .unset, .unset, .unset, .unset, .unset, .unset, .unset, .unset, .unset] [(.long (65008 : Int64)), (.int (14 : Int32)), (.ref b1), (.ref b1)])) rfl rfl (hb hby at_102)
  have V31 := Arv.set Ar31 q31 S31 M31 H31 G31 rfl W31 14 rfl (Nat.le_of_ble_eq_true rfl)
  have K32 : Keep h0 h31 [] := (K30.wr W31 (Or.inr sz_b1))
  have z32 : n0 ≤ h31.size := (Nat.le_trans z30 (Keep.of_wr W31).1)
  have V31b : Arv Z h31 b1 k1 .long (16 : Int32) [(.long (58 : Int64)), (.long (65 : Int64)), (.long (95 : Int64)), (.long (97 : Int64)), (.long (192 : Int64)), (.long (216 : Int64)), (.long (248 : Int64)), (.long (880 : Int64)), (.long (895 : Int64)), (.long (8204 : Int64)), (.long (8304 : Int64)), (.long (11264 : Int64)), (.long (12289 : Int64)), (.long (63744 : Int64)), (.long (65008 : Int64)), (.long (0 : Int64))] (.long (0 : Int64)) := V31
  have N31 := Fr.snoc X31 N29 g_b1
  refine Dn.by (U' := T31.setTop (mkF m 103 #[.val (.int p0), .val (.int p1), .val (.long q2), .second, .unset, .unset, .unset, .unset, .unset, .unset, .unset, .unset, .unset, .unset, .unset] [(.ref b1)])) st31 ?_
  refine Dn.by (U' := T31.setTop (mkF m 104 #[.val (.int p0), .val (.int p1), .val (.long q2), .second, .unset, .unset, .unset, .unset, .unset, .unset, .unset, .unset, .unset, .unset, .unset] [(.ref b1), (.ref b1)])) (fun _ ks => XS.dup X31.here hx rfl (hb hby at_103) rfl rfl ks) ?_
  refine Dn.by (U' := T31.setTop (mkF m 106 #[.val (.int p0), .val (.int p1), .val (.long q2), .second, .unset, .unset, .unset, .unset, .unset, .unset, .unset, .unset, .unset, .unset, .unset] [(.int (15 : Int32)), (.ref b1), (.ref b1)])) (fun _ ks => XS.bipush X31.here hx rfl (hb hby at_104)  ks) ?_
  refine Dn.by (U' := T31.setTop (mkF m 109 #[.val (.int p0), .val (.int p1), .val (.long q2), .second, .unset, .unset, .unset, .unset, .unset, .unset, .unset, .unset, .unset, .unset, .unset] [(.long (65536 : Int64)), (.int (15 : Int32)), (.ref b1), (.ref b1)])) (X31.ldc2Long hx hown (mvT hZ (hw _ (List.mem_of_getElem? (i := 16) rfl))) (g := (mkF m 106 #[.val (.int p0), .val (.int p1), .val (.long q2), .second, .unset, .unset, .unset, .unset, .unset, .unset, .unset, .unset, .unset, .unset, .unset] [(.int (15 : Int32)), (.ref b1), (.ref b1)])) rfl (hb hby at_106)) ?_
  obtain ⟨cl33, Ar33, q33, S33, M33, H33, G33⟩ := id V31b
  obtain ⟨T33, h33, X33, e33, W33, st33⟩ := stJ X31 hx hZ e31 Ar33 (j := (15 : Int32)) (inb_of S33 ⟨by decide, by decide⟩) (g := (mkF m 109 #[.val (.int p0), .val (.int p1), .val (.long q2), .second, .unset, .unset, .unset, .unset, .unset, .unset, .unset, .unset, .unset, .unset, .unset] [(.long (65536 : Int64)), (.int (15 : Int32)), (.ref b1), (.ref b1)])) rfl rfl (hb hby at_109)
  have V33 := Arv.set Ar33 q33 S33 M33 H33 G33 rfl W33 15 rfl (Nat.le_of_ble_eq_true rfl)
  have K34 : Keep h0 h33 [] := (K32.wr W33 (Or.inr sz_b1))
  have z34 : n0 ≤ h33.size := (Nat.le_trans z32 (Keep.of_wr W33).1)
  have V33b : Arv Z h33 b1 k1 .long (16 : Int32) [(.long (58 : Int64)), (.long (65 : Int64)), (.long (95 : Int64)), (.long (97 : Int64)), (.long (192 : Int64)), (.long (216 : Int64)), (.long (248 : Int64)), (.long (880 : Int64)), (.long (895 : Int64)), (.long (8204 : Int64)), (.long (8304 : Int64)), (.long (11264 : Int64)), (.long (12289 : Int64)), (.long (63744 : Int64)), (.long (65008 : Int64)), (.long (65536 : Int64))] (.long (0 : Int64)) := V33
  have N33 := Fr.snoc X33 N31 g_b1
  refine Dn.by (U' := T33.setTop (mkF m 110 #[.val (.int p0), .val (.int p1), .val (.long q2), .second, .unset, .unset, .unset, .unset, .unset, .unset, .unset, .unset, .unset, .unset, .unset] [(.ref b1)])) st33 ?_
  refine Dn.by (U' := T33.setTop (mkF m 112 #[.val (.int p0), .val (.int p1), .val (.long q2), .second, .val (.ref b1), .unset, .unset, .unset, .unset, .unset, .unset, .unset, .unset, .unset, .unset] [])) (fun _ ks => XS.astore X33.here hx rfl (hb hby at_110) rfl rfl (l' := #[.val (.int p0), .val (.int p1), .val (.long q2), .second, .val (.ref b1), .unset, .unset, .unset, .unset, .unset, .unset, .unset, .unset, .unset, .unset]) rfl ks) ?_
  refine Dn.by (U' := T33.setTop (mkF m 114 #[.val (.int p0), .val (.int p1), .val (.long q2), .second, .val (.ref b1), .unset, .unset, .unset, .unset, .unset, .unset, .unset, .unset, .unset, .unset] [(.int (16 : Int32))])) (fun _ ks => XS.bipush X33.here hx rfl (hb hby at_112)  ks) ?_
  obtain ⟨T35, h35, k35, X35, e35, E35, A35, st35⟩ := newP X33 hx hZ (hw _ (List.mem_of_getElem? (i := 0) rfl)) e33 (g := (mkF m 114 #[.val (.int p0), .val (.int p1), .val (.long q2), .second, .val (.ref b1), .unset, .unset, .unset, .unset, .unset, .unset, .unset, .unset, .unset, .unset] [(.int (16 : Int32))])) rfl (hb hby at_114) rfl (by decide) (cap := 16) (by decide) (by decide) (by decide) (by decide)
  obtain ⟨b35, g35⟩ : ∃ z, z = h33.size := ⟨_, rfl⟩
  rw [← g35] at A35 st35
  have g_b35 : n0 ≤ b35 := Nat.le_trans z34 (Nat.le_of_eq g35.symm)
  have sz_b35 : h0.size ≤ b35 := Nat.le_trans K34.1 (Nat.le_of_eq g35.symm)
  have ne_b1_b35 : b1 ≠ b35 := Nat.ne_of_lt (Nat.lt_of_lt_of_le V33b.lt (Nat.le_of_eq g35.symm))
  have K36 : Keep h0 h35 [] := (K34.ext E35)
  have z36 : n0 ≤ h35.size := (Nat.le_trans z34 E35.1)
  have V35 : Arv Z h35 b35 k35 .long (16 : Int32) [(.long (0 : Int64)), (.long (0 : Int64)), (.long (0 : Int64)), (.long (0 : Int64)), (.long (0 : Int64)), (.long (0 : Int64)), (.long (0 : Int64)), (.long (0 : Int64)), (.long (0 : Int64)), (.long (0 : Int64)), (.long (0 : Int64)), (.long (0 : Int64)), (.long (0 : Int64)), (.long (0 : Int64)), (.long (0 : Int64)), (.long (0 : Int64))] (.long (0 : Int64)) := (Arv.new A35 (by decide)).pad (pad_rep [] (.long (0 : Int64)) 16)
  refine Dn.by (U' := T35.setTop (mkF m 116 #[.val (.int p0), .val (.int p1), .val (.long q2), .second, .val (.ref b1), .unset, .unset, .unset, .unset, .unset, .unset, .unset, .unset, .unset, .unset] [(.ref b35)])) st35 ?_
  refine Dn.by (U' := T35.setTop (mkF m 117 #[.val (.int p0), .val (.int p1), .val (.long q2), .second, .val (.ref b1), .unset, .unset, .unset, .unset, .unset, .unset, .unset, .unset, .unset, .unset] [(.ref b35), (.ref b35)])) (fun _ ks => XS.dup X35.here hx rfl (hb hby at_116) rfl rfl ks) ?_
  refine Dn.by (U' := T35.setTop (mkF m 118 #[.val (.int p0), .val (.int p1), .val (.long q2), .second, .val (.ref b1), .unset, .unset, .unset, .unset, .unset, .unset, .unset, .unset, .unset, .unset] [(.int (0 : Int32)), (.ref b35), (.ref b35)])) (fun _ ks => XS.iconst X35.here hx rfl (hb hby at_117)  ks) ?_
  refine Dn.by (U' := T35.setTop (mkF m 121 #[.val (.int p0), .val (.int p1), .val (.long q2), .second, .val (.ref b1), .unset, .unset, .unset, .unset, .unset, .unset, .unset, .unset, .unset, .unset] [(.long (58 : Int64)), (.int (0 : Int32)), (.ref b35), (.ref b35)])) (X35.ldc2Long hx hown (mvT hZ (hw _ (List.mem_of_getElem? (i := 1) rfl))) (g := (mkF m 118 #[.val (.int p0), .val (.int p1), .val (.long q2), .second, .val (.ref b1), .unset, .unset, .unset, .unset, .unset, .unset, .unset, .unset, .unset, .unset] [(.int (0 : Int32)), (.ref b35), (.ref b35)])) rfl (hb hby at_118)) ?_
  obtain ⟨cl37, Ar37, q37, S37, M37, H37, G37⟩ := id V35
  obtain ⟨T37, h37, X37, e37, W37, st37⟩ := stJ X35 hx hZ e35 Ar37 (j := (0 : Int32)) (inb_of S37 ⟨by decide, by decide⟩) (g := (mkF m 121 #[.val (.int p0), .val (.int p1), .val (.long q2), .second, .val (.ref b1), .unset, .unset, .unset, .unset, .unset, .unset, .unset, .unset, .unset, .unset] [(.long (58 : Int64)), (.int (0 : Int32)), (.ref b35), (.ref b35)])) rfl rfl (hb hby at_121)
  have V37 := Arv.set Ar37 q37 S37 M37 H37 G37 rfl W37 0 rfl (Nat.le_of_ble_eq_true rfl)
  have K38 : Keep h0 h37 [] := (K36.wr W37 (Or.inr sz_b35))
  have z38 : n0 ≤ h37.size := (Nat.le_trans z36 (Keep.of_wr W37).1)
  have V37b : Arv Z h37 b35 k35 .long (16 : Int32) [(.long (58 : Int64)), (.long (0 : Int64)), (.long (0 : Int64)), (.long (0 : Int64)), (.long (0 : Int64)), (.long (0 : Int64)), (.long (0 : Int64)), (.long (0 : Int64)), (.long (0 : Int64)), (.long (0 : Int64)), (.long (0 : Int64)), (.long (0 : Int64)), (.long (0 : Int64)), (.long (0 : Int64)), (.long (0 : Int64)), (.long (0 : Int64))] (.long (0 : Int64)) := V37
  have N37 := Fr.snoc X37 N33 g_b35
  refine Dn.by (U' := T37.setTop (mkF m 122 #[.val (.int p0), .val (.int p1), .val (.long q2), .second, .val (.ref b1), .unset, .unset, .unset, .unset, .unset, .unset, .unset, .unset, .unset, .unset] [(.ref b35)])) st37 ?_
  refine Dn.by (U' := T37.setTop (mkF m 123 #[.val (.int p0), .val (.int p1), .val (.long q2), .second, .val (.ref b1), .unset, .unset, .unset, .unset, .unset, .unset, .unset, .unset, .unset, .unset] [(.ref b35), (.ref b35)])) (fun _ ks => XS.dup X37.here hx rfl (hb hby at_122) rfl rfl ks) ?_
  refine Dn.by (U' := T37.setTop (mkF m 124 #[.val (.int p0), .val (.int p1), .val (.long q2), .second, .val (.ref b1), .unset, .unset, .unset, .unset, .unset, .unset, .unset, .unset, .unset, .unset] [(.int (1 : Int32)), (.ref b35), (.ref b35)])) (fun _ ks => XS.iconst X37.here hx rfl (hb hby at_123)  ks) ?_
  refine Dn.by (U' := T37.setTop (mkF m 127 #[.val (.int p0), .val (.int p1), .val (.long q2), .second, .val (.ref b1), .unset, .unset, .unset, .unset, .unset, .unset, .unset, .unset, .unset, .unset] [(.long (90 : Int64)), (.int (1 : Int32)), (.ref b35), (.ref b35)])) (X37.ldc2Long hx hown (mvT hZ (hw _ (List.mem_of_getElem? (i := 17) rfl))) (g := (mkF m 124 #[.val (.int p0), .val (.int p1), .val (.long q2), .second, .val (.ref b1), .unset, .unset, .unset, .unset, .unset, .unset, .unset, .unset, .unset, .unset] [(.int (1 : Int32)), (.ref b35), (.ref b35)])) rfl (hb hby at_124)) ?_
  obtain ⟨cl39, Ar39, q39, S39, M39, H39, G39⟩ := id V37b
  obtain ⟨T39, h39, X39, e39, W39, st39⟩ := stJ X37 hx hZ e37 Ar39 (j := (1 : Int32)) (inb_of S39 ⟨by decide, by decide⟩) (g := (mkF m 127 #[.val (.int p0), .val (.int p1), .val (.long q2), .second, .val (.ref b1), .unset, .unset, .unset, .unset, .unset, .unset, .unset, .unset, .unset, .unset] [(.long (90 : Int64)), (.int (1 : Int32)), (.ref b35), (.ref b35)])) rfl rfl (hb hby at_127)
  have V39 := Arv.set Ar39 q39 S39 M39 H39 G39 rfl W39 1 rfl (Nat.le_of_ble_eq_true rfl)
  have K40 : Keep h0 h39 [] := (K38.wr W39 (Or.inr sz_b35))
  have z40 : n0 ≤ h39.size := (Nat.le_trans z38 (Keep.of_wr W39).1)
  have V39b : Arv Z h39 b35 k35 .long (16 : Int32) [(.long (58 : Int64)), (.long (90 : Int64)), (.long (0 : Int64)), (.long (0 : Int64)), (.long (0 : Int64)), (.long (0 : Int64)), (.long (0 : Int64)), (.long (0 : Int64)), (.long (0 : Int64)), (.long (0 : Int64)), (.long (0 : Int64)), (.long (0 : Int64)), (.long (0 : Int64)), (.long (0 : Int64)), (.long (0 : Int64)), (.long (0 : Int64))] (.long (0 : Int64)) := V39
  have N39 := Fr.snoc X39 N37 g_b35
  refine Dn.by (U' := T39.setTop (mkF m 128 #[.val (.int p0), .val (.int p1), .val (.long q2), .second, .val (.ref b1), .unset, .unset, .unset, .unset, .unset, .unset, .unset, .unset, .unset, .unset] [(.ref b35)])) st39 ?_
  refine Dn.by (U' := T39.setTop (mkF m 129 #[.val (.int p0), .val (.int p1), .val (.long q2), .second, .val (.ref b1), .unset, .unset, .unset, .unset, .unset, .unset, .unset, .unset, .unset, .unset] [(.ref b35), (.ref b35)])) (fun _ ks => XS.dup X39.here hx rfl (hb hby at_128) rfl rfl ks) ?_
  refine Dn.by (U' := T39.setTop (mkF m 130 #[.val (.int p0), .val (.int p1), .val (.long q2), .second, .val (.ref b1), .unset, .unset, .unset, .unset, .unset, .unset, .unset, .unset, .unset, .unset] [(.int (2 : Int32)), (.ref b35), (.ref b35)])) (fun _ ks => XS.iconst X39.here hx rfl (hb hby at_129)  ks) ?_
  refine Dn.by (U' := T39.setTop (mkF m 133 #[.val (.int p0), .val (.int p1), .val (.long q2), .second, .val (.ref b1), .unset, .unset, .unset, .unset, .unset, .unset, .unset, .unset, .unset, .unset] [(.long (95 : Int64)), (.int (2 : Int32)), (.ref b35), (.ref b35)])) (X39.ldc2Long hx hown (mvT hZ (hw _ (List.mem_of_getElem? (i := 3) rfl))) (g := (mkF m 130 #[.val (.int p0), .val (.int p1), .val (.long q2), .second, .val (.ref b1), .unset, .unset, .unset, .unset, .unset, .unset, .unset, .unset, .unset, .unset] [(.int (2 : Int32)), (.ref b35), (.ref b35)])) rfl (hb hby at_130)) ?_
  obtain ⟨cl41, Ar41, q41, S41, M41, H41, G41⟩ := id V39b
  obtain ⟨T41, h41, X41, e41, W41, st41⟩ := stJ X39 hx hZ e39 Ar41 (j := (2 : Int32)) (inb_of S41 ⟨by decide, by decide⟩) (g := (mkF m 133 #[.val (.int p0), .val (.int p1), .val (.long q2), .second, .val (.ref b1), .unset, .unset, .unset, .unset, .unset, .unset, .unset, .unset, .unset, .unset] [(.long (95 : Int64)), (.int (2 : Int32)), (.ref b35), (.ref b35)])) rfl rfl (hb hby at_133)
  have V41 := Arv.set Ar41 q41 S41 M41 H41 G41 rfl W41 2 rfl (Nat.le_of_ble_eq_true rfl)
  have K42 : Keep h0 h41 [] := (K40.wr W41 (Or.inr sz_b35))
  have z42 : n0 ≤ h41.size := (Nat.le_trans z40 (Keep.of_wr W41).1)
  have V41b : Arv Z h41 b35 k35 .long (16 : Int32) [(.long (58 : Int64)), (.long (90 : Int64)), (.long (95 : Int64)), (.long (0 : Int64)), (.long (0 : Int64)), (.long (0 : Int64)), (.long (0 : Int64)), (.long (0 : Int64)), (.long (0 : Int64)), (.long (0 : Int64)), (.long (0 : Int64)), (.long (0 : Int64)), (.long (0 : Int64)), (.long (0 : Int64)), (.long (0 : Int64)), (.long (0 : Int64))] (.long (0 : Int64)) := V41
  have N41 := Fr.snoc X41 N39 g_b35
  refine Dn.by (U' := T41.setTop (mkF m 134 #[.val (.int p0), .val (.int p1), .val (.long q2), .second, .val (.ref b1), .unset, .unset, .unset, .unset, .unset, .unset, .unset, .unset, .unset, .unset] [(.ref b35)])) st41 ?_
  refine Dn.by (U' := T41.setTop (mkF m 135 #[.val (.int p0), .val (.int p1), .val (.long q2), .second, .val (.ref b1), .unset, .unset, .unset, .unset, .unset, .unset, .unset, .unset, .unset, .unset] [(.ref b35), (.ref b35)])) (fun _ ks => XS.dup X41.here hx rfl (hb hby at_134) rfl rfl ks) ?_
  refine Dn.by (U' := T41.setTop (mkF m 136 #[.val (.int p0), .val (.int p1), .val (.long q2), .second, .val (.ref b1), .unset, .unset, .unset, .unset, .unset, .unset, .unset, .unset, .unset, .unset] [(.int (3 : Int32)), (.ref b35), (.ref b35)])) (fun _ ks => XS.iconst X41.here hx rfl (hb hby at_135)  ks) ?_
  refine Dn.by (U' := T41.setTop (mkF m 139 #[.val (.int p0), .val (.int p1), .val (.long q2), .second, .val (.ref b1), .unset, .unset, .unset, .unset, .unset, .unset, .unset, .unset, .unset, .unset] [(.long (122 : Int64)), (.int (3 : Int32)), (.ref b35), (.ref b35)])) (X41.ldc2Long hx hown (mvT hZ (hw _ (List.mem_of_getElem? (i := 18) rfl))) (g := (mkF m 136 #[.val (.int p0), .val (.int p1), .val (.long q2), .second, .val (.ref b1), .unset, .unset, .unset, .unset, .unset, .unset, .unset, .unset, .unset, .unset] [(.int (3 : Int32)), (.ref b35), (.ref b35)])) rfl (hb hby at_136)) ?_
  obtain ⟨cl43, Ar43, q43, S43, M43, H43, G43⟩ := id V41b
  obtain ⟨T43, h43, X43, e43, W43, st43⟩ := stJ X41 hx hZ e41 Ar43 (j := (3 : Int32)) (inb_of S43 ⟨by decide, by decide⟩) (g := (mkF m 139 #[.val (.int p0), .val (.int p1), .val (.long q2), .second, .val (.ref b1), .unset, .unset, .unset, .unset, .unset, .unset, .unset, .unset, .unset, .unset] [(.long (122 : Int64)), (.int (3 : Int32)), (.ref b35), (.ref b35)])) rfl rfl (hb hby at_139)
  have V43 := Arv.set Ar43 q43 S43 M43 H43 G43 rfl W43 3 rfl (Nat.le_of_ble_eq_true rfl)
  have K44 : Keep h0 h43 [] := (K42.wr W43 (Or.inr sz_b35))
  have z44 : n0 ≤ h43.size := (Nat.le_trans z42 (Keep.of_wr W43).1)
  have V43b : Arv Z h43 b35 k35 .long (16 : Int32) [(.long (58 : Int64)), (.long (90 : Int64)), (.long (95 : Int64)), (.long (122 : Int64)), (.long (0 : Int64)), (.long (0 : Int64)), (.long (0 : Int64)), (.long (0 : Int64)), (.long (0 : Int64)), (.long (0 : Int64)), (.long (0 : Int64)), (.long (0 : Int64)), (.long (0 : Int64)), (.long (0 : Int64)), (.long (0 : Int64)), (.long (0 : Int64))] (.long (0 : Int64)) := V43
  have N43 := Fr.snoc X43 N41 g_b35
  refine Dn.by (U' := T43.setTop (mkF m 140 #[.val (.int p0), .val (.int p1), .val (.long q2), .second, .val (.ref b1), .unset, .unset, .unset, .unset, .unset, .unset, .unset, .unset, .unset, .unset] [(.ref b35)])) st43 ?_
  refine Dn.by (U' := T43.setTop (mkF m 141 #[.val (.int p0), .val (.int p1), .val (.long q2), .second, .val (.ref b1), .unset, .unset, .unset, .unset, .unset, .unset, .unset, .unset, .unset, .unset] [(.ref b35), (.ref b35)])) (fun _ ks => XS.dup X43.here hx rfl (hb hby at_140) rfl rfl ks) ?_
  refine Dn.by (U' := T43.setTop (mkF m 142 #[.val (.int p0), .val (.int p1), .val (.long q2), .second, .val (.ref b1), .unset, .unset, .unset, .unset, .unset, .unset, .unset, .unset, .unset, .unset] [(.int (4 : Int32)), (.ref b35), (.ref b35)])) (fun _ ks => XS.iconst X43.here hx rfl (hb hby at_141)  ks) ?_
  refine Dn.by (U' := T43.setTop (mkF m 145 #[.val (.int p0), .val (.int p1), .val (.long q2), .second, .val (.ref b1), .unset, .unset, .unset, .unset, .unset, .unset, .unset, .unset, .unset, .unset] [(.long (214 : Int64)), (.int (4 : Int32)), (.ref b35), (.ref b35)])) (X43.ldc2Long hx hown (mvT hZ (hw _ (List.mem_of_getElem? (i := 19) rfl))) (g := (mkF m 142 #[.val (.int p0), .val (.int p1), .val (.long q2), .second, .val (.ref b1), .unset, .unset, .unset, .unset, .unset, .unset, .unset, .unset, .unset, .unset] [(.int (4 : Int32)), (.ref b35), (.ref b35)])) rfl (hb hby at_142)) ?_
  obtain ⟨cl45, Ar45, q45, S45, M45, H45, G45⟩ := id V43b
  obtain ⟨T45, h45, X45, e45, W45, st45⟩ := stJ X43 hx hZ e43 Ar45 (j := (4 : Int32)) (inb_of S45 ⟨by decide, by decide⟩) (g := (mkF m 145 #[.val (.int p0), .val (.int p1), .val (.long q2), .second, .val (.ref b1), .unset, .unset, .unset, .unset, .unset, .unset, .unset, .unset, .unset, .unset] [(.long (214 : Int64)), (.int (4 : Int32)), (.ref b35), (.ref b35)])) rfl rfl (hb hby at_145)
  have V45 := Arv.set Ar45 q45 S45 M45 H45 G45 rfl W45 4 rfl (Nat.le_of_ble_eq_true rfl)
  have K46 : Keep h0 h45 [] := (K44.wr W45 (Or.inr sz_b35))
  have z46 : n0 ≤ h45.size := (Nat.le_trans z44 (Keep.of_wr W45).1)
  have V45b : Arv Z h45 b35 k35 .long (16 : Int32) [(.long (58 : Int64)), (.long (90 : Int64)), (.long (95 : Int64)), (.long (122 : Int64)), (.long (214 : Int64)), (.long (0 : Int64)), (.long (0 : Int64)), (.long (0 : Int64)), (.long (0 : Int64)), (.long (0 : Int64)), (.long (0 : Int64)), (.long (0 : Int64)), (.long (0 : Int64)), (.long (0 : Int64)), (.long (0 : Int64)), (.long (0 : Int64))] (.long (0 : Int64)) := V45
  have N45 := Fr.snoc X45 N43 g_b35
  refine Dn.by (U' := T45.setTop (mkF m 146 #[.val (.int p0), .val (.int p1), .val (.long q2), .second, .val (.ref b1), .unset, .unset, .unset, .unset, .unset, .unset, .unset, .unset, .unset, .unset] [(.ref b35)])) st45 ?_
  refine Dn.by (U' := T45.setTop (mkF m 147 #[.val (.int p0), .val (.int p1), .val (.long q2), .second, .val (.ref b1), .unset, .unset, .unset, .unset, .unset, .unset, .unset, .unset, .unset, .unset] [(.ref b35), (.ref b35)])) (fun _ ks => XS.dup X45.here hx rfl (hb hby at_146) rfl rfl ks) ?_
  refine Dn.by (U' := T45.setTop (mkF m 148 #[.val (.int p0), .val (.int p1), .val (.long q2), .second, .val (.ref b1), .unset, .unset, .unset, .unset, .unset, .unset, .unset, .unset, .unset, .unset] [(.int (5 : Int32)), (.ref b35), (.ref b35)])) (fun _ ks => XS.iconst X45.here hx rfl (hb hby at_147)  ks) ?_
  refine Dn.by (U' := T45.setTop (mkF m 151 #[.val (.int p0), .val (.int p1), .val (.long q2), .second, .val (.ref b1), .unset, .unset, .unset, .unset, .unset, .unset, .unset, .unset, .unset, .unset] [(.long (246 : Int64)), (.int (5 : Int32)), (.ref b35), (.ref b35)])) (X45.ldc2Long hx hown (mvT hZ (hw _ (List.mem_of_getElem? (i := 20) rfl))) (g := (mkF m 148 #[.val (.int p0), .val (.int p1), .val (.long q2), .second, .val (.ref b1), .unset, .unset, .unset, .unset, .unset, .unset, .unset, .unset, .unset, .unset] [(.int (5 : Int32)), (.ref b35), (.ref b35)])) rfl (hb hby at_148)) ?_
  obtain ⟨cl47, Ar47, q47, S47, M47, H47, G47⟩ := id V45b
  obtain ⟨T47, h47, X47, e47, W47, st47⟩ := stJ X45 hx hZ e45 Ar47 (j := (5 : Int32)) (inb_of S47 ⟨by decide, by decide⟩) (g := (mkF m 151 #[.val (.int p0), .val (.int p1), .val (.long q2), .second, .val (.ref b1), .unset, .unset, .unset, .unset, .unset, .unset, .unset, .unset, .unset, .unset] [(.long (246 : Int64)), (.int (5 : Int32)), (.ref b35), (.ref b35)])) rfl rfl (hb hby at_151)
  have V47 := Arv.set Ar47 q47 S47 M47 H47 G47 rfl W47 5 rfl (Nat.le_of_ble_eq_true rfl)
  have K48 : Keep h0 h47 [] := (K46.wr W47 (Or.inr sz_b35))
  have z48 : n0 ≤ h47.size := (Nat.le_trans z46 (Keep.of_wr W47).1)
  have V47b : Arv Z h47 b35 k35 .long (16 : Int32) [(.long (58 : Int64)), (.long (90 : Int64)), (.long (95 : Int64)), (.long (122 : Int64)), (.long (214 : Int64)), (.long (246 : Int64)), (.long (0 : Int64)), (.long (0 : Int64)), (.long (0 : Int64)), (.long (0 : Int64)), (.long (0 : Int64)), (.long (0 : Int64)), (.long (0 : Int64)), (.long (0 : Int64)), (.long (0 : Int64)), (.long (0 : Int64))] (.long (0 : Int64)) := V47
  have N47 := Fr.snoc X47 N45 g_b35
  refine Dn.by (U' := T47.setTop (mkF m 152 #[.val (.int p0), .val (.int p1), .val (.long q2), .second, .val (.ref b1), .unset, .unset, .unset, .unset, .unset, .unset, .unset, .unset, .unset, .unset] [(.ref b35)])) st47 ?_
  refine Dn.by (U' := T47.setTop (mkF m 153 #[.val (.int p0), .val (.int p1), .val (.long q2), .second, .val (.ref b1), .unset, .unset, .unset, .unset, .unset, .unset, .unset, .unset, .unset, .unset] [(.ref b35), (.ref b35)])) (fun _ ks => XS.dup X47.here hx rfl (hb hby at_152) rfl rfl ks) ?_
  refine Dn.by (U' := T47.setTop (mkF m 155 #[.val (.int p0), .val (.int p1), .val (.long q2), .second, .val (.ref b1), .unset, .unset, .unset, .unset, .unset, .unset, .unset, .unset, .unset, .unset] [(.int (6 : Int32)), (.ref b35), (.ref b35)])) (fun _ ks => XS.bipush X47.here hx rfl (hb hby at_153)  ks) ?_
  refine Dn.by (U' := T47.setTop (mkF m 158 #[.val (.int p0), .val (.int p1), .val (.long q2), .second, .val (.ref b1), .unset, .unset, .unset, .unset, .unset, .unset, .unset, .unset, .unset, .unset] [(.long (767 : Int64)), (.int (6 : Int32)), (.ref b35), (.ref b35)])) (X47.ldc2Long hx hown (mvT hZ (hw _ (List.mem_of_getElem? (i := 21) rfl))) (g := (mkF m 155 #[.val (.int p0), .val (.int p1), .val (.long q2), .second, .val (.ref b1), .unset, .unset, .unset, .unset, .unset, .unset, .unset, .unset, .unset, .unset] [(.int (6 : Int32)), (.ref b35), (.ref b35)])) rfl (hb hby at_155)) ?_
  obtain ⟨cl49, Ar49, q49, S49, M49, H49, G49⟩ := id V47b
  obtain ⟨T49, h49, X49, e49, W49, st49⟩ := stJ X47 hx hZ e47 Ar49 (j := (6 : Int32)) (inb_of S49 ⟨by decide, by decide⟩) (g := (mkF m 158 #[.val (.int p0), .val (.int p1), .val (.long q2), .second, .val (.ref b1), .unset, .unset, .unset, .unset, .unset, .unset, .unset, .unset, .unset, .unset] [(.long (767 : Int64)), (.int (6 : Int32)), (.ref b35), (.ref b35)])) rfl rfl (hb hby at_158)
  have V49 := Arv.set Ar49 q49 S49 M49 H49 G49 rfl W49 6 rfl (Nat.le_of_ble_eq_true rfl)
  have K50 : Keep h0 h49 [] := (K48.wr W49 (Or.inr sz_b35))
  have z50 : n0 ≤ h49.size := (Nat.le_trans z48 (Keep.of_wr W49).1)
  have V49b : Arv Z h49 b35 k35 .long (16 : Int32) [(.long (58 : Int64)), (.long (90 : Int64)), (.long (95 : Int64)), (.long (122 : Int64)), (.long (214 : Int64)), (.long (246 : Int64)), (.long (767 : Int64)), (.long (0 : Int64)), (.long (0 : Int64)), (.long (0 : Int64)), (.long (0 : Int64)), (.long (0 : Int64)), (.long (0 : Int64)), (.long (0 : Int64)), (.long (0 : Int64)), (.long (0 : Int64))] (.long (0 : Int64)) := V49
  have N49 := Fr.snoc X49 N47 g_b35
  refine Dn.by (U' := T49.setTop (mkF m 159 #[.val (.int p0), .val (.int p1), .val (.long q2), .second, .val (.ref b1), .unset, .unset, .unset, .unset, .unset, .unset, .unset, .unset, .unset, .unset] [(.ref b35)])) st49 ?_
  refine Dn.by (U' := T49.setTop (mkF m 160 #[.val (.int p0), .val (.int p1), .val (.long q2), .second, .val (.ref b1), .unset, .unset, .unset, .unset, .unset, .unset, .unset, .unset, .unset, .unset] [(.ref b35), (.ref b35)])) (fun _ ks => XS.dup X49.here hx rfl (hb hby at_159) rfl rfl ks) ?_
  refine Dn.by (U' := T49.setTop (mkF m 162 #[.val (.int p0), .val (.int p1), .val (.long q2), .second, .val (.ref b1), .unset, .unset, .unset, .unset, .unset, .unset, .unset, .unset, .unset, .unset] [(.int (7 : Int32)), (.ref b35), (.ref b35)])) (fun _ ks => XS.bipush X49.here hx rfl (hb hby at_160)  ks) ?_
  refine Dn.by (U' := T49.setTop (mkF m 165 #[.val (.int p0), .val (.int p1), .val (.long q2), .second, .val (.ref b1), .unset, .unset, .unset, .unset, .unset, .unset, .unset, .unset, .unset, .unset] [(.long (893 : Int64)), (.int (7 : Int32)), (.ref b35), (.ref b35)])) (X49.ldc2Long hx hown (mvT hZ (hw _ (List.mem_of_getElem? (i := 22) rfl))) (g := (mkF m 162 #[.val (.int p0), .val (.int p1), .val (.long q2), .second, .val (.ref b1), .unset, .unset, .unset, .unset, .unset, .unset, .unset, .unset, .unset, .unset] [(.int (7 : Int32)), (.ref b35), (.ref b35)])) rfl (hb hby at_162)) ?_
  obtain ⟨cl51, Ar51, q51, S51, M51, H51, G51⟩ := id V49b
  obtain ⟨T51, h51, X51, e51, W51, st51⟩ := stJ X49 hx hZ e49 Ar51 (j := (7 : Int32)) (inb_of S51 ⟨by decide, by decide⟩) (g := (mkF m 165 #[.val (.int p0), .val (.int p1), .val (.long q2), .second, .val (.ref b1), .unset, .unset, .unset, .unset, .unset, .unset, .unset, .unset, .unset, .unset] [(.long (893 : Int64)), (.int (7 : Int32)), (.ref b35), (.ref b35)])) rfl rfl (hb hby at_165)
  have V51 := Arv.set Ar51 q51 S51 M51 H51 G51 rfl W51 7 rfl (Nat.le_of_ble_eq_true rfl)
  have K52 : Keep h0 h51 [] := (K50.wr W51 (Or.inr sz_b35))
  have z52 : n0 ≤ h51.size := (Nat.le_trans z50 (Keep.of_wr W51).1)
  have V51b : Arv Z h51 b35 k35 .long (16 : Int32) [(.long (58 : Int64)), (.long (90 : Int64)), (.long (95 : Int64)), (.long (122 : Int64)), (.long (214 : Int64)), (.long (246 : Int64)), (.long (767 : Int64)), (.long (893 : Int64)), (.long (0 : Int64)), (.long (0 : Int64)), (.long (0 : Int64)), (.long (0 : Int64)), (.long (0 : Int64)), (.long (0 : Int64)), (.long (0 : Int64)), (.long (0 : Int64))] (.long (0 : Int64)) := V51
  have N51 := Fr.snoc X51 N49 g_b35
  refine Dn.by (U' := T51.setTop (mkF m 166 #[.val (.int p0), .val (.int p1), .val (.long q2), .second, .val (.ref b1), .unset, .unset, .unset, .unset, .unset, .unset, .unset, .unset, .unset, .unset] [(.ref b35)])) st51 ?_
  refine Dn.by (U' := T51.setTop (mkF m 167 #[.val (.int p0), .val (.int p1), .val (.long q2), .second, .val (.ref b1), .unset, .unset, .unset, .unset, .unset, .unset, .unset, .unset, .unset, .unset] [(.ref b35), (.ref b35)])) (fun _ ks => XS.dup X51.here hx rfl (hb hby at_166) rfl rfl ks) ?_
  refine Dn.by (U' := T51.setTop (mkF m 169 #[.val (.int p0), .val (.int p1), .val (.long q2), .second, .val (.ref b1), .unset, .unset, .unset, .unset, .unset, .unset, .unset, .unset, .unset, .unset] [(.int (8 : Int32)), (.ref b35), (.ref b35)])) (fun _ ks => XS.bipush X51.here hx rfl (hb hby at_167)  ks) ?_
  refine Dn.by (U' := T51.setTop (mkF m 172 #[.val (.int p0), .val (.int p1), .val (.long q2), .second, .val (.ref b1), .unset, .unset, .unset, .unset, .unset, .unset, .unset, .unset, .unset, .unset] [(.long (8191 : Int64)), (.int (8 : Int32)), (.ref b35), (.ref b35)])) (X51.ldc2Long hx hown (mvT hZ (hw _ (List.mem_of_getElem? (i := 23) rfl))) (g := (mkF m 169 #[.val (.int p0), .val (.int p1), .val (.long q2), .second, .val (.ref b1), .unset, .unset, .unset, .unset, .unset, .unset, .unset, .unset, .unset, .unset] [(.int (8 : Int32)), (.ref b35), (.ref b35)])) rfl (hb hby at_169)) ?_
  obtain ⟨cl53, Ar53, q53, S53, M53, H53, G53⟩ := id V51b
  obtain ⟨T53, h53, X53, e53, W53, st53⟩ := stJ X51 hx hZ e51 Ar53 (j := (8 : Int32)) (inb_of S53 ⟨by decide, by decide⟩) (g := (mkF m 172 #[.val (.int p0), .val (.int p1), .val (.long q2), .second, .val (.ref b1), .unset, .unset, .unset, .unset, .unset, .unset, .unset, .unset, .unset, .unset] [(.long (8191 : Int64)), (.int (8 : Int32)), (.ref b35), (.ref b35)])) rfl rfl (hb hby at_172)
  have V53 := Arv.set Ar53 q53 S53 M53 H53 G53 rfl W53 8 rfl (Nat.le_of_ble_eq_true rfl)
  have K54 : Keep h0 h53 [] := (K52.wr W53 (Or.inr sz_b35))
  have z54 : n0 ≤ h53.size := (Nat.le_trans z52 (Keep.of_wr W53).1)
  have V53b : Arv Z h53 b35 k35 .long (16 : Int32) [(.long (58 : Int64)), (.long (90 : Int64)), (.long (95 : Int64)), (.long (122 : Int64)), (.long (214 : Int64)), (.long (246 : Int64)), (.long (767 : Int64)), (.long (893 : Int64)), (.long (8191 : Int64)), (.long (0 : Int64)), (.long (0 : Int64)), (.long (0 : Int64)), (.long (0 : Int64)), (.long (0 : Int64)), (.long (0 : Int64)), (.long (0 : Int64))] (.long (0 : Int64)) := V53
  have N53 := Fr.snoc X53 N51 g_b35
  refine Dn.by (U' := T53.setTop (mkF m 173 #[.val (.int p0), .val (.int p1), .val (.long q2), .second, .val (.ref b1), .unset, .unset, .unset, .unset, .unset, .unset, .unset, .unset, .unset, .unset] [(.ref b35)])) st53 ?_
  refine Dn.by (U' := T53.setTop (mkF m 174 #[.val (.int p0), .val (.int p1), .val (.long q2), .second, .val (.ref b1), .unset, .unset, .unset, .unset, .unset, .unset, .unset, .unset, .unset, .unset] [(.ref b35), (.ref b35)])) (fun _ ks => XS.dup X53.here hx rfl (hb hby at_173) rfl rfl ks) ?_
  refine Dn.by (U' := T53.setTop (mkF m 176 #[.val (.int p0), .val (.int p1), .val (.long q2), .second, .val (.ref b1), .unset, .unset, .unset, .unset, .unset, .unset, .unset, .unset, .unset, .unset] [(.int (9 : Int32)), (.ref b35), (.ref b35)])) (fun _ ks => XS.bipush X53.here hx rfl (hb hby at_174)  ks) ?_
  refine Dn.by (U' := T53.setTop (mkF m 179 #[.val (.int p0), .val (.int p1), .val (.long q2), .second, .val (.ref b1), .unset, .unset, .unset, .unset, .unset, .unset, .unset, .unset, .unset, .unset] [(.long (8205 : Int64)), (.int (9 : Int32)), (.ref b35), (.ref b35)])) (X53.ldc2Long hx hown (mvT hZ (hw _ (List.mem_of_getElem? (i := 24) rfl))) (g := (mkF m 176 #[.val (.int p0), .val (.int p1), .val (.long q2), .second, .val (.ref b1), .unset, .unset, .unset, .unset, .unset, .unset, .unset, .unset, .unset, .unset] [(.int (9 : Int32)), (.ref b35), (.ref b35)])) rfl (hb hby at_176)) ?_
  obtain ⟨cl55, Ar55, q55, S55, M55, H55, G55⟩ := id V53b
  obtain ⟨T55, h55, X55, e55, W55, st55⟩ := stJ X53 hx hZ e53 Ar55 (j := (9 : Int32)) (inb_of S55 ⟨by decide, by decide⟩) (g := (mkF m 179 #[.val (.int p0), .val (.int p1), .val (.long q2), .second, .val (.ref b1), .unset, .unset, .unset, .unset, .unset, .unset, .unset, .unset, .unset, .unset] [(.long (8205 : Int64)), (.int (9 : Int32)), (.ref b35), (.ref b35)])) rfl rfl (hb hby at_179)
  have V55 := Arv.set Ar55 q55 S55 M55 H55 G55 rfl W55 9 rfl (Nat.le_of_ble_eq_true rfl)
  have K56 : Keep h0 h55 [] := (K54.wr W55 (Or.inr sz_b35))
  have z56 : n0 ≤ h55.size := (Nat.le_trans z54 (Keep.of_wr W55).1)
  have V55b : Arv Z h55 b35 k35 .long (16 : Int32) [(.long (58 : Int64)), (.long (90 : Int64)), (.long (95 : Int64)), (.long (122 : Int64)), (.long (214 : Int64)), (.long (246 : Int64)), (.long (767 : Int64)), (.long (893 : Int64)), (.long (8191 : Int64)), (.long (8205 : Int64)), (.long (0 : Int64)), (.long (0 : Int64)), (.long (0 : Int64)), (.long (0 : Int64)), (.long (0 : Int64)), (.long (0 : Int64))] (.long (0 : Int64)) := V55
  have N55 := Fr.snoc X55 N53 g_b35
  refine Dn.by (U' := T55.setTop (mkF m 180 #[.val (.int p0), .val (.int p1), .val (.long q2), .second, .val (.ref b1), .unset, .unset, .unset, .unset, .unset, .unset, .unset, .unset, .unset, .unset] [(.ref b35)])) st55 ?_
  refine Dn.by (U' := T55.setTop (mkF m 181 #[.val (.int p0), .val (.int p1), .val (.long q2), .second, .val (.ref b1), .unset, .unset, .unset, .unset, .unset, .unset, .unset, .unset, .unset, .unset] [(.ref b35), (.ref b35)])) (fun _ ks => XS.dup X55.here hx rfl (hb hby at_180) rfl rfl ks) ?_
  refine Dn.by (U' := T55.setTop (mkF m 183 #[.val (.int p0), .val (.int p1), .val (.long q2), .second, .val (.ref b1), .unset, .unset, .unset, .unset, .unset, .unset, .unset, .unset, .unset, .unset] [(.int (10 : Int32)), (.ref b35), (.ref b35)])) (fun _ ks => XS.bipush X55.here hx rfl (hb hby at_181)  ks) ?_
  refine Dn.by (U' := T55.setTop (mkF m 186 #[.val (.int p0), .val (.int p1), .val (.long q2), .second, .val (.ref b1), .unset, .unset, .unset, .unset, .unset, .unset, .unset, .unset, .unset, .unset] [(.long (8591 : Int64)), (.int (10 : Int32)), (.ref b35), (.ref b35)])) (X55.ldc2Long hx hown (mvT hZ (hw _ (List.mem_of_getElem? (i := 25) rfl))) (g := (mkF m 183 #[.val (.int p0), .val (.int p1), .val (.long q2), .second, .val (.ref b1), .unset, .unset, .unset, .unset, .unset, .unset, .unset, .unset, .unset, .unset] [(.int (10 : Int32)), (.ref b35), (.ref b35)])) rfl (hb hby at_183)) ?_
  obtain ⟨cl57, Ar57, q57, S57, M57, H57, G57⟩ := id V55b
  obtain ⟨T57, h57, X57, e57, W57, st57⟩ := stJ X55 hx hZ e55 Ar57 (j := (10 : Int32)) (inb_of S57 ⟨by decide, by decide⟩) (g := (mkF m 186 #[.val (.int p0), .val (.int p1), .val (.long q2), .second, .val (.ref b1), .unset, .unset, .unset, .unset, .unset, .unset, .unset, .unset, .unset, .unset] [(.long (8591 : Int64)), (.int (10 : Int32)), (.ref b35), (.ref b35)])) rfl rfl (hb hby at_186)
  have V57 := Arv.set Ar57 q57 S57 M57 H57 G57 rfl W57 10 rfl (Nat.le_of_ble_eq_true rfl)
  have K58 : Keep h0 h57 [] := (K56.wr W57 (Or.inr sz_b35))
  have z58 : n0 ≤ h57.size := (Nat.le_trans z56 (Keep.of_wr W57).1)
  have V57b : Arv Z h57 b35 k35 .long (16 : Int32) [(.long (58 : Int64)), (.long (90 : Int64)), (.long (95 : Int64)), (.long (122 : Int64)), (.long (214 : Int64)), (.long (246 : Int64)), (.long (767 : Int64)), (.long (893 : Int64)), (.long (8191 : Int64)), (.long (8205 : Int64)), (.long (8591 : Int64)), (.long (0 : Int64)), (.long (0 : Int64)), (.long (0 : Int64)), (.long (0 : Int64)), (.long (0 : Int64))] (.long (0 : Int64)) := V57
  have N57 := Fr.snoc X57 N55 g_b35
  refine Dn.by (U' := T57.setTop (mkF m 187 #[.val (.int p0), .val (.int p1), .val (.long q2), .second, .val (.ref b1), .unset, .unset, .unset, .unset, .unset, .unset, .unset, .unset, .unset, .unset] [(.ref b35)])) st57 ?_
  refine Dn.by (U' := T57.setTop (mkF m 188 #[.val (.int p0), .val (.int p1), .val (.long q2), .second, .val (.ref b1), .unset, .unset, .unset, .unset, .unset, .unset, .unset, .unset, .unset, .unset] [(.ref b35), (.ref b35)])) (fun _ ks => XS.dup X57.here hx rfl (hb hby at_187) rfl rfl ks) ?_
  refine Dn.by (U' := T57.setTop (mkF m 190 #[.val (.int p0), .val (.int p1), .val (.long q2), .second, .val (.ref b1), .unset, .unset, .unset, .unset, .unset, .unset, .unset, .unset, .unset, .unset] [(.int (11 : Int32)), (.ref b35), (.ref b35)])) (fun _ ks => XS.bipush X57.here hx rfl (hb hby at_188)  ks) ?_
  refine Dn.by (U' := T57.setTop (mkF m 193 #[.val (.int p0), .val (.int p1), .val (.long q2), .second, .val (.ref b1), .unset, .unset, .unset, .unset, .unset, .unset, .unset, .unset, .unset, .unset] [(.long (12271 : Int64)), (.int (11 : Int32)), (.ref b35), (.ref b35)])) (X57.ldc2Long hx hown (mvT hZ (hw _ (List.mem_of_getElem? (i := 26) rfl))) (g := (mkF m 190 #[.val (.int p0), .val (.int p1), .val (.long q2), .second, .val (.ref b1), .unset, .unset, .unset, .unset, .unset, .unset, .unset, .unset, .unset, .unset] [(.int (11 : Int32)), (.ref b35), (.ref b35)])) rfl (hb hby at_190)) ?_
  obtain ⟨cl59, Ar59, q59, S59, M59, H59, G59⟩ := id V57b
  obtain ⟨T59, h59, X59, e59, W59, st59⟩ := stJ X57 hx hZ e57 Ar59 (j := (11 : Int32)) (inb_of S59 ⟨by decide, by decide⟩) (g := (mkF m 193 #[.val (.int p0), .val (.int p1), .val (.long q2), .second, .val (.ref b1), .unset, .unset, .unset, .unset, .unset, .unset, .unset, .unset, .unset, .unset] [(.long (12271 : Int64)), (.int (11 : Int32)), (.ref b35), (.ref b35)])) rfl rfl (hb hby at_193)
  have V59 := Arv.set Ar59 q59 S59 M59 H59 G59 rfl W59 11 rfl (Nat.le_of_ble_eq_true rfl)
  have K60 : Keep h0 h59 [] := (K58.wr W59 (Or.inr sz_b35))
  have z60 : n0 ≤ h59.size := (Nat.le_trans z58 (Keep.of_wr W59).1)
  have V59b : Arv Z h59 b35 k35 .long (16 : Int32) [(.long (58 : Int64)), (.long (90 : Int64)), (.long (95 : Int64)), (.long (122 : Int64)), (.long (214 : Int64)), (.long (246 : Int64)), (.long (767 : Int64)), (.long (893 : Int64)), (.long (8191 : Int64)), (.long (8205 : Int64)), (.long (8591 : Int64)), (.long (12271 : Int64)), (.long (0 : Int64)), (.long (0 : Int64)), (.long (0 : Int64)), (.long (0 : Int64))] (.long (0 : Int64)) := V59
  have N59 := Fr.snoc X59 N57 g_b35
  refine Dn.by (U' := T59.setTop (mkF m 194 #[.val (.int p0), .val (.int p1), .val (.long q2), .second, .val (.ref b1), .unset, .unset, .unset, .unset, .unset, .unset, .unset, .unset, .unset, .unset] [(.ref b35)])) st59 ?_
  refine Dn.by (U' := T59.setTop (mkF m 195 #[.val (.int p0), .val (.int p1), .val (.long q2), .second, .val (.ref b1), .unset, .unset, .unset, .unset, .unset, .unset, .unset, .unset, .unset, .unset] [(.ref b35), (.ref b35)])) (fun _ ks => XS.dup X59.here hx rfl (hb hby at_194) rfl rfl ks) ?_
  refine Dn.by (U' := T59.setTop (mkF m 197 #[.val (.int p0), .val (.int p1), .val (.long q2), .second, .val (.ref b1), .unset, .unset, .unset, .unset, .unset, .unset, .unset, .unset, .unset, .unset] [(.int (12 : Int32)), (.ref b35), (.ref b35)])) (fun _ ks => XS.bipush X59.here hx rfl (hb hby at_195)  ks) ?_
  refine Dn.by (U' := T59.setTop (mkF m 200 #[.val (.int p0), .val (.int p1), .val (.long q2), .second, .val (.ref b1), .unset, .unset, .unset, .unset, .unset, .unset, .unset, .unset, .unset, .unset] [(.long (55295 : Int64)), (.int (12 : Int32)), (.ref b35), (.ref b35)])) (X59.ldc2Long hx hown (mvT hZ (hw _ (List.mem_of_getElem? (i := 27) rfl))) (g := (mkF m 197 #[.val (.int p0), .val (.int p1), .val (.long q2), .second, .val (.ref b1), .unset, .unset, .unset, .unset, .unset, .unset, .unset, .unset, .unset, .unset] [(.int (12 : Int32)), (.ref b35), (.ref b35)])) rfl (hb hby at_197)) ?_
  obtain ⟨cl61, Ar61, q61, S61, M61, H61, G61⟩ := id V59b
  obtain ⟨T61, h61, X61, e61, W61, st61⟩ := stJ X59 hx hZ e59 Ar61 (j := (12 : Int32)) (inb_of S61 ⟨by decide, by decide⟩) (g := (mkF m 200 #[.val (.int p0), .val (.int p1), .val (.long q2), .second, .val (.ref b1), .unset, .unset, .unset, .unset, .unset, .unset, .unset, .unset, .unset, .unset] [(.long (55295 : Int64)), (.int (12 : Int32)), (.ref b35), (.ref b35)])) rfl rfl (hb hby at_200)
  have V61 := Arv.set Ar61 q61 S61 M61 H61 G61 rfl W61 12 rfl (Nat.le_of_ble_eq_true rfl)
  have K62 : Keep h0 h61 [] := (K60.wr W61 (Or.inr sz_b35))
  have z62 : n0 ≤ h61.size := (Nat.le_trans z60 (Keep.of_wr W61).1)
  have V61b : Arv Z h61 b35 k35 .long (16 : Int32) [(.long (58 : Int64)), (.long (90 : Int64)), (.long (95 : Int64)), (.long (122 : Int64)), (.long (214 : Int64)), (.long (246 : Int64)), (.long (767 : Int64)), (.long (893 : Int64)), (.long (8191 : Int64)), (.long (8205 : Int64)), (.long (8591 : Int64)), (.long (12271 : Int64)), (.long (55295 : Int64)), (.long (0 : Int64)), (.long (0 : Int64)), (.long (0 : Int64))] (.long (0 : Int64)) := V61
  have N61 := Fr.snoc X61 N59 g_b35
  refine Dn.by (U' := T61.setTop (mkF m 201 #[.val (.int p0), .val (.int p1), .val (.long q2), .second, .val (.ref b1), .unset, .unset, .unset, .unset, .unset, .unset, .unset, .unset, .unset, .unset] [(.ref b35)])) st61 ?_
  refine Dn.by (U' := T61.setTop (mkF m 202 #[.val (.int p0), .val (.int p1), .val (.long q2), .second, .val (.ref b1), .unset, .unset, .unset, .unset, .unset, .unset, .unset, .unset, .unset, .unset] [(.ref b35), (.ref b35)])) (fun _ ks => XS.dup X61.here hx rfl (hb hby at_201) rfl rfl ks) ?_
  refine Dn.by (U' := T61.setTop (mkF m 204 #[.val (.int p0), .val (.int p1), .val (.long q2), .second, .val (.ref b1), .unset, .unset, .unset, .unset, .unset, .unset, .unset, .unset, .unset, .unset] [(.int (13 : Int32)), (.ref b35), (.ref b35)])) (fun _ ks => XS.bipush X61.here hx rfl (hb hby at_202)  ks) ?_
  refine Dn.by (U' := T61.setTop (mkF m 207 #[.val (.int p0), .val (.int p1), .val (.long q2), .second, .val (.ref b1), .unset, .unset, .unset, .unset, .unset, .unset, .unset, .unset, .unset, .unset] [(.long (64975 : Int64)), (.int (13 : Int32)), (.ref b35), (.ref b35)])) (X61.ldc2Long hx hown (mvT hZ (hw _ (List.mem_of_getElem? (i := 28) rfl))) (g := (mkF m 204 #[.val (.int p0), .val (.int p1), .val (.long q2), .second, .val (.ref b1), .unset, .unset, .unset, .unset, .unset, .unset, .unset, .unset, .unset, .unset] [(.int (13 : Int32)), (.ref b35), (.ref b35)])) rfl (hb hby at_204)) ?_
  obtain ⟨cl63, Ar63, q63, S63, M63, H63, G63⟩ := id V61b
  obtain ⟨T63, h63, X63, e63, W63, st63⟩ := stJ X61 hx hZ e61 Ar63 (j := (13 : Int32)) (inb_of S63 ⟨by decide, by decide⟩) (g := (mkF m 207 #[.val (.int p0), .val (.int p1), .val (.long q2), .second, .val (.ref b1), .unset, .unset, .unset, .unset, .unset, .unset, .unset, .unset, .unset, .unset] [(.long (64975 : Int64)), (.int (13 : Int32)), (.ref b35), (.ref b35)])) rfl rfl (hb hby at_207)
  have V63 := Arv.set Ar63 q63 S63 M63 H63 G63 rfl W63 13 rfl (Nat.le_of_ble_eq_true rfl)
  have K64 : Keep h0 h63 [] := (K62.wr W63 (Or.inr sz_b35))
  have z64 : n0 ≤ h63.size := (Nat.le_trans z62 (Keep.of_wr W63).1)
  have V63b : Arv Z h63 b35 k35 .long (16 : Int32) [(.long (58 : Int64)), (.long (90 : Int64)), (.long (95 : Int64)), (.long (122 : Int64)), (.long (214 : Int64)), (.long (246 : Int64)), (.long (767 : Int64)), (.long (893 : Int64)), (.long (8191 : Int64)), (.long (8205 : Int64)), (.long (8591 : Int64)), (.long (12271 : Int64)), (.long (55295 : Int64)), (.long (64975 : Int64)), (.long (0 : Int64)), (.long (0 : Int64))] (.long (0 : Int64)) := V63
  have N63 := Fr.snoc X63 N61 g_b35
  refine Dn.by (U' := T63.setTop (mkF m 208 #[.val (.int p0), .val (.int p1), .val (.long q2), .second, .val (.ref b1), .unset, .unset, .unset, .unset, .unset, .unset, .unset, .unset, .unset, .unset] [(.ref b35)])) st63 ?_
  refine Dn.by (U' := T63.setTop (mkF m 209 #[.val (.int p0), .val (.int p1), .val (.long q2), .second, .val (.ref b1), .unset, .unset, .unset, .unset, .unset, .unset, .unset, .unset, .unset, .unset] [(.ref b35), (.ref b35)])) (fun _ ks => XS.dup X63.here hx rfl (hb hby at_208) rfl rfl ks) ?_
  refine Dn.by (U' := T63.setTop (mkF m 211 #[.val (.int p0), .val (.int p1), .val (.long q2), .second, .val (.ref b1), .unset, .unset, .unset, .unset, .unset, .unset, .unset, .unset, .unset, .unset] [(.int (14 : Int32)), (.ref b35), (.ref b35)])) (fun _ ks => XS.bipush X63.here hx rfl (hb hby at_209)  ks) ?_
  refine Dn.by (U' := T63.setTop (mkF m 214 #[.val (.int p0), .val (.int p1), .val (.long q2), .second, .val (.ref b1), .unset, .unset, .unset, .unset, .unset, .unset, .unset, .unset, .unset, .unset] [(.long (65533 : Int64)), (.int (14 : Int32)), (.ref b35), (.ref b35)])) (X63.ldc2Long hx hown (mvT hZ (hw _ (List.mem_of_getElem? (i := 29) rfl))) (g := (mkF m 211 #[.val (.int p0), .val (.int p1), .val (.long q2), .second, .val (.ref b1), .unset, .unset, .unset, .unset, .unset, .unset, .unset, .unset, .unset, .unset] [(.int (14 : Int32)), (.ref b35), (.ref b35)])) rfl (hb hby at_211)) ?_
  obtain ⟨cl65, Ar65, q65, S65, M65, H65, G65⟩ := id V63b
  obtain ⟨T65, h65, X65, e65, W65, st65⟩ := stJ X63 hx hZ e63 Ar65 (j := (14 : Int32)) (inb_of S65 ⟨by decide, by decide⟩) (g := (mkF m 214 #[.val (.int p0), .val (.int p1), .val (.long q2), .second, .val (.ref b1), .unset, .unset, .unset, .unset, .unset, .unset, .unset, .unset, .unset, .unset] [(.long (65533 : Int64)), (.int (14 : Int32)), (.ref b35), (.ref b35)])) rfl rfl (hb hby at_214)
  have V65 := Arv.set Ar65 q65 S65 M65 H65 G65 rfl W65 14 rfl (Nat.le_of_ble_eq_true rfl)
  have K66 : Keep h0 h65 [] := (K64.wr W65 (Or.inr sz_b35))
  have z66 : n0 ≤ h65.size := (Nat.le_trans z64 (Keep.of_wr W65).1)
  have V65b : Arv Z h65 b35 k35 .long (16 : Int32) [(.long (58 : Int64)), (.long (90 : Int64)), (.long (95 : Int64)), (.long (122 : Int64)), (.long (214 : Int64)), (.long (246 : Int64)), (.long (767 : Int64)), (.long (893 : Int64)), (.long (8191 : Int64)), (.long (8205 : Int64)), (.long (8591 : Int64)), (.long (12271 : Int64)), (.long (55295 : Int64)), (.long (64975 : Int64)), (.long (65533 : Int64)), (.long (0 : Int64))] (.long (0 : Int64)) := V65
  have N65 := Fr.snoc X65 N63 g_b35
  refine Dn.by (U' := T65.setTop (mkF m 215 #[.val (.int p0), .val (.int p1), .val (.long q2), .second, .val (.ref b1), .unset, .unset, .unset, .unset, .unset, .unset, .unset, .unset, .unset, .unset] [(.ref b35)])) st65 ?_
  refine Dn.by (U' := T65.setTop (mkF m 216 #[.val (.int p0), .val (.int p1), .val (.long q2), .second, .val (.ref b1), .unset, .unset, .unset, .unset, .unset, .unset, .unset, .unset, .unset, .unset] [(.ref b35), (.ref b35)])) (fun _ ks => XS.dup X65.here hx rfl (hb hby at_215) rfl rfl ks) ?_
  refine Dn.by (U' := T65.setTop (mkF m 218 #[.val (.int p0), .val (.int p1), .val (.long q2), .second, .val (.ref b1), .unset, .unset, .unset, .unset, .unset, .unset, .unset, .unset, .unset, .unset] [(.int (15 : Int32)), (.ref b35), (.ref b35)])) (fun _ ks => XS.bipush X65.here hx rfl (hb hby at_216)  ks) ?_
  refine Dn.by (U' := T65.setTop (mkF m 221 #[.val (.int p0), .val (.int p1), .val (.long q2), .second, .val (.ref b1), .unset, .unset, .unset, .unset, .unset, .unset, .unset, .unset, .unset, .unset] [(.long (983039 : Int64)), (.int (15 : Int32)), (.ref b35), (.ref b35)])) (X65.ldc2Long hx hown (mvT hZ (hw _ (List.mem_of_getElem? (i := 30) rfl))) (g := (mkF m 218 #[.val (.int p0), .val (.int p1), .val (.long q2), .second, .val (.ref b1), .unset, .unset, .unset, .unset, .unset, .unset, .unset, .unset, .unset, .unset] [(.int (15 : Int32)), (.ref b35), (.ref b35)])) rfl (hb hby at_218)) ?_
  obtain ⟨cl67, Ar67, q67, S67, M67, H67, G67⟩ := id V65b
  obtain ⟨T67, h67, X67, e67, W67, st67⟩ := stJ X65 hx hZ e65 Ar67 (j := (15 : Int32)) (inb_of S67 ⟨by decide, by decide⟩) (g := (mkF m 221 #[.val (.int p0), .val (.int p1), .val (.long q2), .second, .val (.ref b1), .unset, .unset, .unset, .unset, .unset, .unset, .unset, .unset, .unset, .unset] [(.long (983039 : Int64)), (.int (15 : Int32)), (.ref b35), (.ref b35)])) rfl rfl (hb hby at_221)
  have V67 := Arv.set Ar67 q67 S67 M67 H67 G67 rfl W67 15 rfl (Nat.le_of_ble_eq_true rfl)
  have K68 : Keep h0 h67 [] := (K66.wr W67 (Or.inr sz_b35))
  have z68 : n0 ≤ h67.size := (Nat.le_trans z66 (Keep.of_wr W67).1)
  have V67b : Arv Z h67 b35 k35 .long (16 : Int32) [(.long (58 : Int64)), (.long (90 : Int64)), (.long (95 : Int64)), (.long (122 : Int64)), (.long (214 : Int64)), (.long (246 : Int64)), (.long (767 : Int64)), (.long (893 : Int64)), (.long (8191 : Int64)), (.long (8205 : Int64)), (.long (8591 : Int64)), (.long (12271 : Int64)), (.long (55295 : Int64)), (.long (64975 : Int64)), (.long (65533 : Int64)), (.long (983039 : Int64))] (.long (0 : Int64)) := V67
  have N67 := Fr.snoc X67 N65 g_b35
  refine Dn.by (U' := T67.setTop (mkF m 222 #[.val (.int p0), .val (.int p1), .val (.long q2), .second, .val (.ref b1), .unset, .unset, .unset, .unset, .unset, .unset, .unset, .unset, .unset, .unset] [(.ref b35)])) st67 ?_
  refine Dn.by (U' := T67.setTop (mkF m 224 #[.val (.int p0), .val (.int p1), .val (.long q2), .second, .val (.ref b1), .val (.ref b35), .unset, .unset, .unset, .unset, .unset, .unset, .unset, .unset, .unset] [])) (fun _ ks => XS.astore X67.here hx rfl (hb hby at_222) rfl rfl (l' := #[.val (.int p0), .val (.int p1), .val (.long q2), .second, .val (.ref b1), .val (.ref b35), .unset, .unset, .unset, .unset, .unset, .unset, .unset, .unset, .unset]) rfl ks) ?_
  refine Dn.by (U' := T67.setTop (mkF m 225 #[.val (.int p0), .val (.int p1), .val (.long q2), .second, .val (.ref b1), .val (.ref b35), .unset, .unset, .unset, .unset, .unset, .unset, .unset, .unset, .unset] [(.int p0)])) (fun _ ks => XS.iloadN X67.here hx rfl (hb hby at_224) rfl ks) ?_
  refine Dn.by (U' := T67.setTop (mkF m 227 #[.val (.int p0), .val (.int p1), .val (.long q2), .second, .val (.ref b1), .val (.ref b35), .unset, .unset, .unset, .unset, .unset, .unset, .unset, .unset, .unset] [(.int (2147483647 : Int32)), (.int p0)])) (X67.ldcInt hx hown (mvT hZ (hw _ (List.mem_of_getElem? (i := 31) rfl))) (g := (mkF m 225 #[.val (.int p0), .val (.int p1), .val (.long q2), .second, .val (.ref b1), .val (.ref b35), .unset, .unset, .unset, .unset, .unset, .unset, .unset, .unset, .unset] [(.int p0)])) rfl (hb hby at_225)) ?_
  refine Dn.by (U' := T67.setTop (mkF m 228 #[.val (.int p0), .val (.int p1), .val (.long q2), .second, .val (.ref b1), .val (.ref b35), .unset, .unset, .unset, .unset, .unset, .unset, .unset, .unset, .unset] [(.int (p0 &&& (2147483647 : Int32)))])) (fun _ ks => XS.iand X67.here hx rfl (hb hby at_227) rfl ks) ?_
  refine Dn.by (U' := T67.setTop (mkF m 230 #[.val (.int p0), .val (.int p1), .val (.long q2), .second, .val (.ref b1), .val (.ref b35), .unset, .unset, .unset, .unset, .unset, .unset, .unset, .unset, .unset] [(.int (33 : Int32)), (.int (p0 &&& (2147483647 : Int32)))])) (fun _ ks => XS.bipush X67.here hx rfl (hb hby at_228)  ks) ?_
  refine Dn.by (U' := T67.setTop (mkF m 231 #[.val (.int p0), .val (.int p1), .val (.long q2), .second, .val (.ref b1), .val (.ref b35), .unset, .unset, .unset, .unset, .unset, .unset, .unset, .unset, .unset] [(.int ((p0 &&& (2147483647 : Int32)) % (33 : Int32)))])) (fun _ ks => iremM X67 hx rfl (hb hby at_230) rfl (by decide) ks) ?_
  generalize h_sg : ((p0 &&& (2147483647 : Int32)) % (33 : Int32)) = sg
  have hsg : 0 ≤ sg.toInt ∧ sg.toInt < 33 := by rw [← h_sg]; exact own_s _
  have l16 : (16 : Int32).toInt = 16 := by decide
  have l31 : (31 : Int32).toInt = 31 := by decide
  have J : ∀ (lo hi : Int64) (ex : Int32) (hR : own_R lo hi ex), Dn p e below s 16 128 (Q0 Z p0 p1 q2 h0 n0) (T67.setTop (mkF m 333 #[.val (.int p0), .val (.int p1), .val (.long q2), .second, .val (.ref b1), .val (.ref b35), .val (.int sg), .val (.long lo), .second, .val (.long hi), .second, .val (.int ex), .unset, .unset, .unset] [])) := by
    intro lo hi ex hR
    refine Dn.by (U' := T67.setTop (mkF m 334 #[.val (.int p0), .val (.int p1), .val (.long q2), .second, .val (.ref b1), .val (.ref b35), .val (.int sg), .val (.long lo), .second, .val (.long hi), .second, .val (.int ex), .unset, .unset, .unset] [(.int p1)])) (fun _ ks => XS.iloadN X67.here hx rfl (hb hby at_333) rfl ks) ?_
    refine Dn.by (U' := T67.setTop (mkF m 335 #[.val (.int p0), .val (.int p1), .val (.long q2), .second, .val (.ref b1), .val (.ref b35), .val (.int sg), .val (.long lo), .second, .val (.long hi), .second, .val (.int ex), .unset, .unset, .unset] [(.int (3 : Int32)), (.int p1)])) (fun _ ks => XS.iconst X67.here hx rfl (hb hby at_334)  ks) ?_
    refine Dn.by (U' := T67.setTop (mkF m 336 #[.val (.int p0), .val (.int p1), .val (.long q2), .second, .val (.ref b1), .val (.ref b35), .val (.int sg), .val (.long lo), .second, .val (.long hi), .second, .val (.int ex), .unset, .unset, .unset] [(.int (p1 &&& (3 : Int32)))])) (fun _ ks => XS.iand X67.here hx rfl (hb hby at_335) rfl ks) ?_
    refine Dn.by (U' := T67.setTop (mkF m 338 #[.val (.int p0), .val (.int p1), .val (.long q2), .second, .val (.ref b1), .val (.ref b35), .val (.int sg), .val (.long lo), .second, .val (.long hi), .second, .val (.int ex), .val (.int (p1 &&& (3 : Int32))), .unset, .unset] [])) (fun _ ks => XS.istore X67.here hx rfl (hb hby at_336) rfl (l' := #[.val (.int p0), .val (.int p1), .val (.long q2), .second, .val (.ref b1), .val (.ref b35), .val (.int sg), .val (.long lo), .second, .val (.long hi), .second, .val (.int ex), .val (.int (p1 &&& (3 : Int32))), .unset, .unset]) rfl ks) ?_
    refine Dn.by (U' := T67.setTop (mkF m 340 #[.val (.int p0), .val (.int p1), .val (.long q2), .second, .val (.ref b1), .val (.ref b35), .val (.int sg), .val (.long lo), .second, .val (.long hi), .second, .val (.int ex), .val (.int (p1 &&& (3 : Int32))), .unset, .unset] [(.int (p1 &&& (3 : Int32)))])) (fun _ ks => XS.iload X67.here hx rfl (hb hby at_338) rfl ks) ?_
    have J2 : ∀ (c3 : Int64) (hc3 : lo.toInt ≤ c3.toInt ∧ c3.toInt ≤ hi.toInt), Dn p e below s 16 128 (Q0 Z p0 p1 q2 h0 n0) (T67.setTop (mkF m 381 #[.val (.int p0), .val (.int p1), .val (.long q2), .second, .val (.ref b1), .val (.ref b35), .val (.int sg), .val (.long lo), .second, .val (.long hi), .second, .val (.int ex), .val (.int (p1 &&& (3 : Int32))), .val (.long c3), .second] [])) := by
      intro c3 hc3
      refine Dn.by (U' := T67.setTop (mkF m 383 #[.val (.int p0), .val (.int p1), .val (.long q2), .second, .val (.ref b1), .val (.ref b35), .val (.int sg), .val (.long lo), .second, .val (.long hi), .second, .val (.int ex), .val (.int (p1 &&& (3 : Int32))), .val (.long c3), .second] [(.long c3)])) (fun _ ks => XS.lload X67.here hx rfl (hb hby at_381) rfl ks) ?_
      refine Dn.by (U' := T67.setTop (mkF m 384 #[.val (.int p0), .val (.int p1), .val (.long q2), .second, .val (.ref b1), .val (.ref b35), .val (.int sg), .val (.long lo), .second, .val (.long hi), .second, .val (.int ex), .val (.int (p1 &&& (3 : Int32))), .val (.long c3), .second] [(.int (c3.toInt32))])) (fun _ ks => XS.l2i X67.here hx rfl (hb hby at_383) rfl ks) ?_
      obtain ⟨_, _, ⟨T69, L69, k69, n69⟩, -, X69, ⟨Lc69, hQ69, l69, y69, z69⟩, st69⟩ := Jvm.LawKit.callS X67 hx (y := (⟨"com/example/osprey/osprey/pointer/FifthEdition", "isNameStartChar", "(I)Z"⟩ : MethodName)) hown (mvT hZ (hw _ (List.mem_of_getElem? (i := 33) rfl))) (mvT hZ (hw _ (List.mem_of_getElem? (i := 34) rfl))) (mvT hZ (hw _ (List.mem_of_getElem? (i := 35) rfl))) (mvT hZ (hw _ (List.mem_of_getElem? (i := 36) rfl))) (by decide) (backOf (W := 0) (rm1 l Z a0 hw [] (c3.toInt32)  h67 n0 z68 ) hZ (hw _ (List.mem_of_getElem? (i := 36) rfl)) (hw _ (List.mem_of_getElem? (i := 35) rfl)) (by decide) (by decide)) (g := (mkF m 384 #[.val (.int p0), .val (.int p1), .val (.long q2), .second, .val (.ref b1), .val (.ref b35), .val (.int sg), .val (.long lo), .second, .val (.long hi), .second, .val (.int ex), .val (.int (p1 &&& (3 : Int32))), .val (.long c3), .second] [(.int (c3.toInt32))])) rfl (by rw [hml]; rfl) (argsL := [(.int (c3.toInt32))]) (rest := []) (lenOf pd0 rfl) rfl (by show 2 * 0 + _ ≤ _; exact Nat.le_of_eq rfl) (hb hby at_384) (fun _ _ => ⟨rfl, e67, (by decide : 2 + 0 ≤ _), (by decide : 32 + 0 ≤ _)⟩)
      dsimp only [Pt.U, Pt.locs, Pt.cells, Pt.slots] at X69 l69 y69 z69 st69 hQ69
      rw [l69, y69, z69] at X69
      obtain ⟨rfl, N69q, e69⟩ := hQ69
      have N69 := Fr.app N67 N69q
      refine Dn.by (U' := T69.setTop (mkF m 387 #[.val (.int p0), .val (.int p1), .val (.long q2), .second, .val (.ref b1), .val (.ref b35), .val (.int sg), .val (.long lo), .second, .val (.long hi), .second, .val (.int ex), .val (.int (p1 &&& (3 : Int32))), .val (.long c3), .second] [(.int (isN (c3.toInt32)))])) st69 ?_
      refine Dn.by (U' := T69.setTop (mkF m 389 #[.val (.int p0), .val (.int p1), .val (.long q2), .second, .val (.ref b1), .val (.ref b35), .val (.int sg), .val (.long lo), .second, .val (.long hi), .second, .val (.int ex), .val (.int (p1 &&& (3 : Int32))), .val (.long c3), .second] [(.int ex), (.int (isN (c3.toInt32)))])) (fun _ ks => XS.iload X69.here hx rfl (hb hby at_387) rfl ks) ?_
      refine Dn.by (U' := T69.setTop (mkF m 392 #[.val (.int p0), .val (.int p1), .val (.long q2), .second, .val (.ref b1), .val (.ref b35), .val (.int sg), .val (.long lo), .second, .val (.long hi), .second, .val (.int ex), .val (.int (p1 &&& (3 : Int32))), .val (.long c3), .second] [])) (fun _ ks => XS.icmpNo X69.here hx rfl (hb hby at_389) rfl (teq (own_c lo hi ex hR c3 hc3)).2 ks) ?_
      refine Dn.by (U' := T69.setTop (mkF m 393 #[.val (.int p0), .val (.int p1), .val (.long q2), .second, .val (.ref b1), .val (.ref b35), .val (.int sg), .val (.long lo), .second, .val (.long hi), .second, .val (.int ex), .val (.int (p1 &&& (3 : Int32))), .val (.long c3), .second] [(.int (1 : Int32))])) (fun _ ks => XS.iconst X69.here hx rfl (hb hby at_392)  ks) ?_
      refine Dn.by (U' := T69.setTop (mkF m 397 #[.val (.int p0), .val (.int p1), .val (.long q2), .second, .val (.ref b1), .val (.ref b35), .val (.int sg), .val (.long lo), .second, .val (.long hi), .second, .val (.int ex), .val (.int (p1 &&& (3 : Int32))), .val (.long c3), .second] [(.int (1 : Int32))])) (fun _ ks => XS.goto X69.here hx rfl (pc0 := 393) (pc' := 397) rfl (hb hby at_393) (by decide) (by decide) ks) ?_
      refine Dn.out X69 (v := (some (.int (1 : Int32)))) (fun h => by rw [Bd.returns] at h; cases h) (BodyLoose.notSynchronized Bd) (fun _ hr => retN X69 hx (t := .boolean) Bd.returns (by simp) (hb hby at_397) hr) (by decide) (by decide) ?_
      rw [e69]
      exact ⟨rfl, N69⟩
    by_cases c340_70 : (p1 &&& (3 : Int32)) = (0 : Int32)
    ·
      refine Dn.by (U' := T67.setTop (mkF m 343 #[.val (.int p0), .val (.int p1), .val (.long q2), .second, .val (.ref b1), .val (.ref b35), .val (.int sg), .val (.long lo), .second, .val (.long hi), .second, .val (.int ex), .val (.int (p1 &&& (3 : Int32))), .unset, .unset] [])) (fun _ ks => XS.ifNo X67.here hx rfl (hb hby at_340) rfl ((if0 _ _).trans (teq c340_70).2) ks) ?_
      refine Dn.by (U' := T67.setTop (mkF m 345 #[.val (.int p0), .val (.int p1), .val (.long q2), .second, .val (.ref b1), .val (.ref b35), .val (.int sg), .val (.long lo), .second, .val (.long hi), .second, .val (.int ex), .val (.int (p1 &&& (3 : Int32))), .unset, .unset] [(.long lo)])) (fun _ ks => XS.lload X67.here hx rfl (hb hby at_343) rfl ks) ?_
      refine Dn.by (U' := T67.setTop (mkF m 347 #[.val (.int p0), .val (.int p1), .val (.long q2), .second, .val (.ref b1), .val (.ref b35), .val (.int sg), .val (.long lo), .second, .val (.long hi), .second, .val (.int ex), .val (.int (p1 &&& (3 : Int32))), .val (.long lo), .second] [])) (fun _ ks => XS.lstore X67.here hx rfl (hb hby at_345) rfl (l' := #[.val (.int p0), .val (.int p1), .val (.long q2), .second, .val (.ref b1), .val (.ref b35), .val (.int sg), .val (.long lo), .second, .val (.long hi), .second, .val (.int ex), .val (.int (p1 &&& (3 : Int32))), .val (.long lo), .second]) rfl ks) ?_
      refine Dn.by (U' := T67.setTop (mkF m 381 #[.val (.int p0), .val (.int p1), .val (.long q2), .second, .val (.ref b1), .val (.ref b35), .val (.int sg), .val (.long lo), .second, .val (.long hi), .second, .val (.int ex), .val (.int (p1 &&& (3 : Int32))), .val (.long lo), .second] [])) (fun _ ks => XS.goto X67.here hx rfl (pc0 := 347) (pc' := 381) rfl (hb hby at_347) (by decide) (by decide) ks) ?_
      exact J2 _ ⟨Int.le_refl _, hR.1⟩
    ·
      refine Dn.by (U' := T67.setTop (mkF m 350 #[.val (.int p0), .val (.int p1), .val (.long q2), .second, .val (.ref b1), .val (.ref b35), .val (.int sg), .val (.long lo), .second, .val (.long hi), .second, .val (.int ex), .val (.int (p1 &&& (3 : Int32))), .unset, .unset] [])) (fun _ ks => XS.ifYes X67.here hx rfl (pc0 := 340) (pc' := 350) rfl (hb hby at_340) rfl ((if0 _ _).trans (feq c340_70).2) (by decide) (by decide) ks) ?_
      refine Dn.by (U' := T67.setTop (mkF m 352 #[.val (.int p0), .val (.int p1), .val (.long q2), .second, .val (.ref b1), .val (.ref b35), .val (.int sg), .val (.long lo), .second, .val (.long hi), .second, .val (.int ex), .val (.int (p1 &&& (3 : Int32))), .unset, .unset] [(.int (p1 &&& (3 : Int32)))])) (fun _ ks => XS.iload X67.here hx rfl (hb hby at_350) rfl ks) ?_
      refine Dn.by (U' := T67.setTop (mkF m 353 #[.val (.int p0), .val (.int p1), .val (.long q2), .second, .val (.ref b1), .val (.ref b35), .val (.int sg), .val (.long lo), .second, .val (.long hi), .second, .val (.int ex), .val (.int (p1 &&& (3 : Int32))), .unset, .unset] [(.int (1 : Int32)), (.int (p1 &&& (3 : Int32)))])) (fun _ ks => XS.iconst X67.here hx rfl (hb hby at_352)  ks) ?_
      by_cases c353_71 : (p1 &&& (3 : Int32)) = (1 : Int32)
      ·
        refine Dn.by (U' := T67.setTop (mkF m 356 #[.val (.int p0), .val (.int p1), .val (.long q2), .second, .val (.ref b1), .val (.ref b35), .val (.int sg), .val (.long lo), .second, .val (.long hi), .second, .val (.int ex), .val (.int (p1 &&& (3 : Int32))), .unset, .unset] [])) (fun _ ks => XS.icmpNo X67.here hx rfl (hb hby at_353) rfl (teq c353_71).2 ks) ?_
        refine Dn.by (U' := T67.setTop (mkF m 358 #[.val (.int p0), .val (.int p1), .val (.long q2), .second, .val (.ref b1), .val (.ref b35), .val (.int sg), .val (.long lo), .second, .val (.long hi), .second, .val (.int ex), .val (.int (p1 &&& (3 : Int32))), .unset, .unset] [(.long hi)])) (fun _ ks => XS.lload X67.here hx rfl (hb hby at_356) rfl ks) ?_
        refine Dn.by (U' := T67.setTop (mkF m 360 #[.val (.int p0), .val (.int p1), .val (.long q2), .second, .val (.ref b1), .val (.ref b35), .val (.int sg), .val (.long lo), .second, .val (.long hi), .second, .val (.int ex), .val (.int (p1 &&& (3 : Int32))), .val (.long hi), .second] [])) (fun _ ks => XS.lstore X67.here hx rfl (hb hby at_358) rfl (l' := #[.val (.int p0), .val (.int p1), .val (.long q2), .second, .val (.ref b1), .val (.ref b35), .val (.int sg), .val (.long lo), .second, .val (.long hi), .second, .val (.int ex), .val (.int (p1 &&& (3 : Int32))), .val (.long hi), .second]) rfl ks) ?_
        refine Dn.by (U' := T67.setTop (mkF m 381 #[.val (.int p0), .val (.int p1), .val (.long q2), .second, .val (.ref b1), .val (.ref b35), .val (.int sg), .val (.long lo), .second, .val (.long hi), .second, .val (.int ex), .val (.int (p1 &&& (3 : Int32))), .val (.long hi), .second] [])) (fun _ ks => XS.goto X67.here hx rfl (pc0 := 360) (pc' := 381) rfl (hb hby at_360) (by decide) (by decide) ks) ?_
        exact J2 _ ⟨hR.1, Int.le_refl _⟩
      ·
        refine Dn.by (U' := T67.setTop (mkF m 363 #[.val (.int p0), .val (.int p1), .val (.long q2), .second, .val (.ref b1), .val (.ref b35), .val (.int sg), .val (.long lo), .second, .val (.long hi), .second, .val (.int ex), .val (.int (p1 &&& (3 : Int32))), .unset, .unset] [])) (fun _ ks => XS.icmpYes X67.here hx rfl (pc0 := 353) (pc' := 363) rfl (hb hby at_353) rfl (feq c353_71).2 (by decide) (by decide) ks) ?_
        refine Dn.by (U' := T67.setTop (mkF m 365 #[.val (.int p0), .val (.int p1), .val (.long q2), .second, .val (.ref b1), .val (.ref b35), .val (.int sg), .val (.long lo), .second, .val (.long hi), .second, .val (.int ex), .val (.int (p1 &&& (3 : Int32))), .unset, .unset] [(.long lo)])) (fun _ ks => XS.lload X67.here hx rfl (hb hby at_363) rfl ks) ?_
        refine Dn.by (U' := T67.setTop (mkF m 366 #[.val (.int p0), .val (.int p1), .val (.long q2), .second, .val (.ref b1), .val (.ref b35), .val (.int sg), .val (.long lo), .second, .val (.long hi), .second, .val (.int ex), .val (.int (p1 &&& (3 : Int32))), .unset, .unset] [(.long q2), (.long lo)])) (fun _ ks => XS.lloadN X67.here hx rfl (hb hby at_365) rfl ks) ?_
        refine Dn.by (U' := T67.setTop (mkF m 369 #[.val (.int p0), .val (.int p1), .val (.long q2), .second, .val (.ref b1), .val (.ref b35), .val (.int sg), .val (.long lo), .second, .val (.long hi), .second, .val (.int ex), .val (.int (p1 &&& (3 : Int32))), .unset, .unset] [(.long (9223372036854775807 : Int64)), (.long q2), (.long lo)])) (X67.ldc2Long hx hown (mvT hZ (hw _ (List.mem_of_getElem? (i := 32) rfl))) (g := (mkF m 366 #[.val (.int p0), .val (.int p1), .val (.long q2), .second, .val (.ref b1), .val (.ref b35), .val (.int sg), .val (.long lo), .second, .val (.long hi), .second, .val (.int ex), .val (.int (p1 &&& (3 : Int32))), .unset, .unset] [(.long q2), (.long lo)])) rfl (hb hby at_366)) ?_
        refine Dn.by (U' := T67.setTop (mkF m 370 #[.val (.int p0), .val (.int p1), .val (.long q2), .second, .val (.ref b1), .val (.ref b35), .val (.int sg), .val (.long lo), .second, .val (.long hi), .second, .val (.int ex), .val (.int (p1 &&& (3 : Int32))), .unset, .unset] [(.long (q2 &&& (9223372036854775807 : Int64))), (.long lo)])) (fun _ ks => XS.land X67.here hx rfl (hb hby at_369) rfl ks) ?_
        refine Dn.by (U' := T67.setTop (mkF m 372 #[.val (.int p0), .val (.int p1), .val (.long q2), .second, .val (.ref b1), .val (.ref b35), .val (.int sg), .val (.long lo), .second, .val (.long hi), .second, .val (.int ex), .val (.int (p1 &&& (3 : Int32))), .unset, .unset] [(.long hi), (.long (q2 &&& (9223372036854775807 : Int64))), (.long lo)])) (fun _ ks => XS.lload X67.here hx rfl (hb hby at_370) rfl ks) ?_
        refine Dn.by (U' := T67.setTop (mkF m 374 #[.val (.int p0), .val (.int p1), .val (.long q2), .second, .val (.ref b1), .val (.ref b35), .val (.int sg), .val (.long lo), .second, .val (.long hi), .second, .val (.int ex), .val (.int (p1 &&& (3 : Int32))), .unset, .unset] [(.long lo), (.long hi), (.long (q2 &&& (9223372036854775807 : Int64))), (.long lo)])) (fun _ ks => XS.lload X67.here hx rfl (hb hby at_372) rfl ks) ?_
        refine Dn.by (U' := T67.setTop (mkF m 375 #[.val (.int p0), .val (.int p1), .val (.long q2), .second, .val (.ref b1), .val (.ref b35), .val (.int sg), .val (.long lo), .second, .val (.long hi), .second, .val (.int ex), .val (.int (p1 &&& (3 : Int32))), .unset, .unset] [(.long (hi - lo)), (.long (q2 &&& (9223372036854775807 : Int64))), (.long lo)])) (fun _ ks => XS.lsub X67.here hx rfl (hb hby at_374) rfl ks) ?_
        refine Dn.by (U' := T67.setTop (mkF m 376 #[.val (.int p0), .val (.int p1), .val (.long q2), .second, .val (.ref b1), .val (.ref b35), .val (.int sg), .val (.long lo), .second, .val (.long hi), .second, .val (.int ex), .val (.int (p1 &&& (3 : Int32))), .unset, .unset] [(.long (1 : Int64)), (.long (hi - lo)), (.long (q2 &&& (9223372036854775807 : Int64))), (.long lo)])) (fun _ ks => XS.lconst X67.here hx rfl (hb hby at_375)  ks) ?_
        refine Dn.by (U' := T67.setTop (mkF m 377 #[.val (.int p0), .val (.int p1), .val (.long q2), .second, .val (.ref b1), .val (.ref b35), .val (.int sg), .val (.long lo), .second, .val (.long hi), .second, .val (.int ex), .val (.int (p1 &&& (3 : Int32))), .unset, .unset] [(.long ((hi - lo) + (1 : Int64))), (.long (q2 &&& (9223372036854775807 : Int64))), (.long lo)])) (fun _ ks => XS.ladd X67.here hx rfl (hb hby at_376) rfl ks) ?_
        refine Dn.by (U' := T67.setTop (mkF m 378 #[.val (.int p0), .val (.int p1), .val (.long q2), .second, .val (.ref b1), .val (.ref b35), .val (.int sg), .val (.long lo), .second, .val (.long hi), .second, .val (.int ex), .val (.int (p1 &&& (3 : Int32))), .unset, .unset] [(.long ((q2 &&& (9223372036854775807 : Int64)) - ((q2 &&& (9223372036854775807 : Int64)) / ((hi - lo) + (1 : Int64))) * ((hi - lo) + (1 : Int64)))), (.long lo)])) (fun _ ks => XS.lrem X67.here hx rfl (hb hby at_377) rfl (own_nz0 lo hi ex hR) ks) ?_
        refine Dn.by (U' := T67.setTop (mkF m 379 #[.val (.int p0), .val (.int p1), .val (.long q2), .second, .val (.ref b1), .val (.ref b35), .val (.int sg), .val (.long lo), .second, .val (.long hi), .second, .val (.int ex), .val (.int (p1 &&& (3 : Int32))), .unset, .unset] [(.long (lo + ((q2 &&& (9223372036854775807 : Int64)) - ((q2 &&& (9223372036854775807 : Int64)) / ((hi - lo) + (1 : Int64))) * ((hi - lo) + (1 : Int64)))))])) (fun _ ks => XS.ladd X67.here hx rfl (hb hby at_378) rfl ks) ?_
        refine Dn.by (U' := T67.setTop (mkF m 381 #[.val (.int p0), .val (.int p1), .val (.long q2), .second, .val (.ref b1), .val (.ref b35), .val (.int sg), .val (.long lo), .second, .val (.long hi), .second, .val (.int ex), .val (.int (p1 &&& (3 : Int32))), .val (.long (lo + ((q2 &&& (9223372036854775807 : Int64)) - ((q2 &&& (9223372036854775807 : Int64)) / ((hi - lo) + (1 : Int64))) * ((hi - lo) + (1 : Int64))))), .second] [])) (fun _ ks => XS.lstore X67.here hx rfl (hb hby at_379) rfl (l' := #[.val (.int p0), .val (.int p1), .val (.long q2), .second, .val (.ref b1), .val (.ref b35), .val (.int sg), .val (.long lo), .second, .val (.long hi), .second, .val (.int ex), .val (.int (p1 &&& (3 : Int32))), .val (.long (lo + ((q2 &&& (9223372036854775807 : Int64)) - ((q2 &&& (9223372036854775807 : Int64)) / ((hi - lo) + (1 : Int64))) * ((hi - lo) + (1 : Int64))))), .second]) rfl ks) ?_
        exact J2 _ (own_rem lo hi ex hR _ (own_m _))
  refine Dn.by (U' := T67.setTop (mkF m 233 #[.val (.int p0), .val (.int p1), .val (.long q2), .second, .val (.ref b1), .val (.ref b35), .val (.int sg), .unset, .unset, .unset, .unset, .unset, .unset, .unset, .unset] [])) (fun _ ks => XS.istore X67.here hx rfl (hb hby at_231) rfl (l' := #[.val (.int p0), .val (.int p1), .val (.long q2), .second, .val (.ref b1), .val (.ref b35), .val (.int sg), .unset, .unset, .unset, .unset, .unset, .unset, .unset, .unset]) rfl ks) ?_
  refine Dn.by (U' := T67.setTop (mkF m 235 #[.val (.int p0), .val (.int p1), .val (.long q2), .second, .val (.ref b1), .val (.ref b35), .val (.int sg), .unset, .unset, .unset, .unset, .unset, .unset, .unset, .unset] [(.int sg)])) (fun _ ks => XS.iload X67.here hx rfl (hb hby at_233) rfl ks) ?_
  refine Dn.by (U' := T67.setTop (mkF m 237 #[.val (.int p0), .val (.int p1), .val (.long q2), .second, .val (.ref b1), .val (.ref b35), .val (.int sg), .unset, .unset, .unset, .unset, .unset, .unset, .unset, .unset] [(.int (16 : Int32)), (.int sg)])) (fun _ ks => XS.bipush X67.here hx rfl (hb hby at_235)  ks) ?_
  by_cases c237_72 : sg < (16 : Int32)
  ·
    refine Dn.by (U' := T67.setTop (mkF m 240 #[.val (.int p0), .val (.int p1), .val (.long q2), .second, .val (.ref b1), .val (.ref b35), .val (.int sg), .unset, .unset, .unset, .unset, .unset, .unset, .unset, .unset] [])) (fun _ ks => XS.icmpNo X67.here hx rfl (hb hby at_237) rfl (tlt c237_72).2.1 ks) ?_
    have hs1 := own_s1 sg ⟨hsg.1, by have q := Int32.lt_iff_toInt_lt.mp c237_72; omega⟩
    rcases hs1 with rfl | rfl | rfl | rfl | rfl | rfl | rfl | rfl | rfl | rfl | rfl | rfl | rfl | rfl | rfl | rfl
    ·
      refine Dn.by (U' := T67.setTop (mkF m 242 #[.val (.int p0), .val (.int p1), .val (.long q2), .second, .val (.ref b1), .val (.ref b35), .val (.int (0 : Int32)), .unset, .unset, .unset, .unset, .unset, .unset, .unset, .unset] [(.ref b1)])) (fun _ ks => XS.aload X67.here hx rfl (hb hby at_240) rfl rfl ks) ?_
      refine Dn.by (U' := T67.setTop (mkF m 244 #[.val (.int p0), .val (.int p1), .val (.long q2), .second, .val (.ref b1), .val (.ref b35), .val (.int (0 : Int32)), .unset, .unset, .unset, .unset, .unset, .unset, .unset, .unset] [(.int (0 : Int32)), (.ref b1)])) (fun _ ks => XS.iload X67.here hx rfl (hb hby at_242) rfl ks) ?_
      obtain ⟨cl73, Ar73, q73, S73, M73, H73, G73⟩ := id (((((((((((((((((V33b.ext E35).other W37 ne_b1_b35).other W39 ne_b1_b35).other W41 ne_b1_b35).other W43 ne_b1_b35).other W45 ne_b1_b35).other W47 ne_b1_b35).other W49 ne_b1_b35).other W51 ne_b1_b35).other W53 ne_b1_b35).other W55 ne_b1_b35).other W57 ne_b1_b35).other W59 ne_b1_b35).other W61 ne_b1_b35).other W63 ne_b1_b35).other W65 ne_b1_b35).other W67 ne_b1_b35)
      have in73 := inb_of (j := (0 : Int32)) S73 ⟨by decide, by decide⟩
      have at73 : cl73.slots[(0 : Int32).toNatClampNeg]? = some (.long (58 : Int64)) := H73.at in73 rfl
      refine Dn.by (U' := T67.setTop (mkF m 245 #[.val (.int p0), .val (.int p1), .val (.long q2), .second, .val (.ref b1), .val (.ref b35), .val (.int (0 : Int32)), .unset, .unset, .unset, .unset, .unset, .unset, .unset, .unset] [(.long (58 : Int64))])) (X67.laload hx (j := (0 : Int32)) (v := (.long (58 : Int64))) (by rw [e67]; exact Ar73.1) (State.isArrayOf_alike hZ.alike Ar73.2.1) Ar73.2.2 in73 at73 (g := (mkF m 244 #[.val (.int p0), .val (.int p1), .val (.long q2), .second, .val (.ref b1), .val (.ref b35), .val (.int (0 : Int32)), .unset, .unset, .unset, .unset, .unset, .unset, .unset, .unset] [(.int (0 : Int32)), (.ref b1)])) rfl rfl (hb hby at_244)) ?_
      refine Dn.by (U' := T67.setTop (mkF m 247 #[.val (.int p0), .val (.int p1), .val (.long q2), .second, .val (.ref b1), .val (.ref b35), .val (.int (0 : Int32)), .val (.long (58 : Int64)), .second, .unset, .unset, .unset, .unset, .unset, .unset] [])) (fun _ ks => XS.lstore X67.here hx rfl (hb hby at_245) rfl (l' := #[.val (.int p0), .val (.int p1), .val (.long q2), .second, .val (.ref b1), .val (.ref b35), .val (.int (0 : Int32)), .val (.long (58 : Int64)), .second, .unset, .unset, .unset, .unset, .unset, .unset]) rfl ks) ?_
      refine Dn.by (U' := T67.setTop (mkF m 249 #[.val (.int p0), .val (.int p1), .val (.long q2), .second, .val (.ref b1), .val (.ref b35), .val (.int (0 : Int32)), .val (.long (58 : Int64)), .second, .unset, .unset, .unset, .unset, .unset, .unset] [(.ref b35)])) (fun _ ks => XS.aload X67.here hx rfl (hb hby at_247) rfl rfl ks) ?_
      refine Dn.by (U' := T67.setTop (mkF m 251 #[.val (.int p0), .val (.int p1), .val (.long q2), .second, .val (.ref b1), .val (.ref b35), .val (.int (0 : Int32)), .val (.long (58 : Int64)), .second, .unset, .unset, .unset, .unset, .unset, .unset] [(.int (0 : Int32)), (.ref b35)])) (fun _ ks => XS.iload X67.here hx rfl (hb hby at_249) rfl ks) ?_
      obtain ⟨cl74, Ar74, q74, S74, M74, H74, G74⟩ := id V67b
      have in74 := inb_of (j := (0 : Int32)) S74 ⟨by decide, by decide⟩
      have at74 : cl74.slots[(0 : Int32).toNatClampNeg]? = some (.long (58 : Int64)) := H74.at in74 rfl
      refine Dn.by (U' := T67.setTop (mkF m 252 #[.val (.int p0), .val (.int p1), .val (.long q2), .second, .val (.ref b1), .val (.ref b35), .val (.int (0 : Int32)), .val (.long (58 : Int64)), .second, .unset, .unset, .unset, .unset, .unset, .unset] [(.long (58 : Int64))])) (X67.laload hx (j := (0 : Int32)) (v := (.long (58 : Int64))) (by rw [e67]; exact Ar74.1) (State.isArrayOf_alike hZ.alike Ar74.2.1) Ar74.2.2 in74 at74 (g := (mkF m 251 #[.val (.int p0), .val (.int p1), .val (.long q2), .second, .val (.ref b1), .val (.ref b35), .val (.int (0 : Int32)), .val (.long (58 : Int64)), .second, .unset, .unset, .unset, .unset, .unset, .unset] [(.int (0 : Int32)), (.ref b35)])) rfl rfl (hb hby at_251)) ?_
      refine Dn.by (U' := T67.setTop (mkF m 254 #[.val (.int p0), .val (.int p1), .val (.long q2), .second, .val (.ref b1), .val (.ref b35), .val (.int (0 : Int32)), .val (.long (58 : Int64)), .second, .val (.long (58 : Int64)), .second, .unset, .unset, .unset, .unset] [])) (fun _ ks => XS.lstore X67.here hx rfl (hb hby at_252) rfl (l' := #[.val (.int p0), .val (.int p1), .val (.long q2), .second, .val (.ref b1), .val (.ref b35), .val (.int (0 : Int32)), .val (.long (58 : Int64)), .second, .val (.long (58 : Int64)), .second, .unset, .unset, .unset, .unset]) rfl ks) ?_
      refine Dn.by (U' := T67.setTop (mkF m 255 #[.val (.int p0), .val (.int p1), .val (.long q2), .second, .val (.ref b1), .val (.ref b35), .val (.int (0 : Int32)), .val (.long (58 : Int64)), .second, .val (.long (58 : Int64)), .second, .unset, .unset, .unset, .unset] [(.int (1 : Int32))])) (fun _ ks => XS.iconst X67.here hx rfl (hb hby at_254)  ks) ?_
      refine Dn.by (U' := T67.setTop (mkF m 257 #[.val (.int p0), .val (.int p1), .val (.long q2), .second, .val (.ref b1), .val (.ref b35), .val (.int (0 : Int32)), .val (.long (58 : Int64)), .second, .val (.long (58 : Int64)), .second, .val (.int (1 : Int32)), .unset, .unset, .unset] [])) (fun _ ks => XS.istore X67.here hx rfl (hb hby at_255) rfl (l' := #[.val (.int p0), .val (.int p1), .val (.long q2), .second, .val (.ref b1), .val (.ref b35), .val (.int (0 : Int32)), .val (.long (58 : Int64)), .second, .val (.long (58 : Int64)), .second, .val (.int (1 : Int32)), .unset, .unset, .unset]) rfl ks) ?_
      refine Dn.by (U' := T67.setTop (mkF m 333 #[.val (.int p0), .val (.int p1), .val (.long q2), .second, .val (.ref b1), .val (.ref b35), .val (.int (0 : Int32)), .val (.long (58 : Int64)), .second, .val (.long (58 : Int64)), .second, .val (.int (1 : Int32)), .unset, .unset, .unset] [])) (fun _ ks => XS.goto X67.here hx rfl (pc0 := 257) (pc' := 333) rfl (hb hby at_257) (by decide) (by decide) ks) ?_
      exact J _ _ _ (own_R1 _ _ (58) (58) (by decide) (by decide) (by decide) (by decide) (by decide) (fun c q1 q2 => by unfold inS; omega))
    ·
      refine Dn.by (U' := T67.setTop (mkF m 242 #[.val (.int p0), .val (.int p1), .val (.long q2), .second, .val (.ref b1), .val (.ref b35), .val (.int (1 : Int32)), .unset, .unset, .unset, .unset, .unset, .unset, .unset, .unset] [(.ref b1)])) (fun _ ks => XS.aload X67.here hx rfl (hb hby at_240) rfl rfl ks) ?_
      refine Dn.by (U' := T67.setTop (mkF m 244 #[.val (.int p0), .val (.int p1), .val (.long q2), .second, .val (.ref b1), .val (.ref b35), .val (.int (1 : Int32)), .unset, .unset, .unset, .unset, .unset, .unset, .unset, .unset] [(.int (1 : Int32)), (.ref b1)])) (fun _ ks => XS.iload X67.here hx rfl (hb hby at_242) rfl ks) ?_
      obtain ⟨cl75, Ar75, q75, S75, M75, H75, G75⟩ := id (((((((((((((((((V33b.ext E35).other W37 ne_b1_b35).other W39 ne_b1_b35).other W41 ne_b1_b35).other W43 ne_b1_b35).other W45 ne_b1_b35).other W47 ne_b1_b35).other W49 ne_b1_b35).other W51 ne_b1_b35).other W53 ne_b1_b35).other W55 ne_b1_b35).other W57 ne_b1_b35).other W59 ne_b1_b35).other W61 ne_b1_b35).other W63 ne_b1_b35).other W65 ne_b1_b35).other W67 ne_b1_b35)
      have in75 := inb_of (j := (1 : Int32)) S75 ⟨by decide, by decide⟩
      have at75 : cl75.slots[(1 : Int32).toNatClampNeg]? = some (.long (65 : Int64)) := H75.at in75 rfl
      refine Dn.by (U' := T67.setTop (mkF m 245 #[.val (.int p0), .val (.int p1), .val (.long q2), .second, .val (.ref b1), .val (.ref b35), .val (.int (1 : Int32)), .unset, .unset, .unset, .unset, .unset, .unset, .unset, .unset] [(.long (65 : Int64))])) (X67.laload hx (j := (1 : Int32)) (v := (.long (65 : Int64))) (by rw [e67]; exact Ar75.1) (State.isArrayOf_alike hZ.alike Ar75.2.1) Ar75.2.2 in75 at75 (g := (mkF m 244 #[.val (.int p0), .val (.int p1), .val (.long q2), .second, .val (.ref b1), .val (.ref b35), .val (.int (1 : Int32)), .unset, .unset, .unset, .unset, .unset, .unset, .unset, .unset] [(.int (1 : Int32)), (.ref b1)])) rfl rfl (hb hby at_244)) ?_
      refine Dn.by (U' := T67.setTop (mkF m 247 #[.val (.int p0), .val (.int p1), .val (.long q2), .second, .val (.ref b1), .val (.ref b35), .val (.int (1 : Int32)), .val (.long (65 : Int64)), .second, .unset, .unset, .unset, .unset, .unset, .unset] [])) (fun _ ks => XS.lstore X67.here hx rfl (hb hby at_245) rfl (l' := #[.val (.int p0), .val (.int p1), .val (.long q2), .second, .val (.ref b1), .val (.ref b35), .val (.int (1 : Int32)), .val (.long (65 : Int64)), .second, .unset, .unset, .unset, .unset, .unset, .unset]) rfl ks) ?_
      refine Dn.by (U' := T67.setTop (mkF m 249 #[.val (.int p0), .val (.int p1), .val (.long q2), .second, .val (.ref b1), .val (.ref b35), .val (.int (1 : Int32)), .val (.long (65 : Int64)), .second, .unset, .unset, .unset, .unset, .unset, .unset] [(.ref b35)])) (fun _ ks => XS.aload X67.here hx rfl (hb hby at_247) rfl rfl ks) ?_
      refine Dn.by (U' := T67.setTop (mkF m 251 #[.val (.int p0), .val (.int p1), .val (.long q2), .second, .val (.ref b1), .val (.ref b35), .val (.int (1 : Int32)), .val (.long (65 : Int64)), .second, .unset, .unset, .unset, .unset, .unset, .unset] [(.int (1 : Int32)), (.ref b35)])) (fun _ ks => XS.iload X67.here hx rfl (hb hby at_249) rfl ks) ?_
      obtain ⟨cl76, Ar76, q76, S76, M76, H76, G76⟩ := id V67b
      have in76 := inb_of (j := (1 : Int32)) S76 ⟨by decide, by decide⟩
      have at76 : cl76.slots[(1 : Int32).toNatClampNeg]? = some (.long (90 : Int64)) := H76.at in76 rfl
      refine Dn.by (U' := T67.setTop (mkF m 252 #[.val (.int p0), .val (.int p1), .val (.long q2), .second, .val (.ref b1), .val (.ref b35), .val (.int (1 : Int32)), .val (.long (65 : Int64)), .second, .unset, .unset, .unset, .unset, .unset, .unset] [(.long (90 : Int64))])) (X67.laload hx (j := (1 : Int32)) (v := (.long (90 : Int64))) (by rw [e67]; exact Ar76.1) (State.isArrayOf_alike hZ.alike Ar76.2.1) Ar76.2.2 in76 at76 (g := (mkF m 251 #[.val (.int p0), .val (.int p1), .val (.long q2), .second, .val (.ref b1), .val (.ref b35), .val (.int (1 : Int32)), .val (.long (65 : Int64)), .second, .unset, .unset, .unset, .unset, .unset, .unset] [(.int (1 : Int32)), (.ref b35)])) rfl rfl (hb hby at_251)) ?_
      refine Dn.by (U' := T67.setTop (mkF m 254 #[.val (.int p0), .val (.int p1), .val (.long q2), .second, .val (.ref b1), .val (.ref b35), .val (.int (1 : Int32)), .val (.long (65 : Int64)), .second, .val (.long (90 : Int64)), .second, .unset, .unset, .unset, .unset] [])) (fun _ ks => XS.lstore X67.here hx rfl (hb hby at_252) rfl (l' := #[.val (.int p0), .val (.int p1), .val (.long q2), .second, .val (.ref b1), .val (.ref b35), .val (.int (1 : Int32)), .val (.long (65 : Int64)), .second, .val (.long (90 : Int64)), .second, .unset, .unset, .unset, .unset]) rfl ks) ?_
      refine Dn.by (U' := T67.setTop (mkF m 255 #[.val (.int p0), .val (.int p1), .val (.long q2), .second, .val (.ref b1), .val (.ref b35), .val (.int (1 : Int32)), .val (.long (65 : Int64)), .second, .val (.long (90 : Int64)), .second, .unset, .unset, .unset, .unset] [(.int (1 : Int32))])) (fun _ ks => XS.iconst X67.here hx rfl (hb hby at_254)  ks) ?_
      refine Dn.by (U' := T67.setTop (mkF m 257 #[.val (.int p0), .val (.int p1), .val (.long q2), .second, .val (.ref b1), .val (.ref b35), .val (.int (1 : Int32)), .val (.long (65 : Int64)), .second, .val (.long (90 : Int64)), .second, .val (.int (1 : Int32)), .unset, .unset, .unset] [])) (fun _ ks => XS.istore X67.here hx rfl (hb hby at_255) rfl (l' := #[.val (.int p0), .val (.int p1), .val (.long q2), .second, .val (.ref b1), .val (.ref b35), .val (.int (1 : Int32)), .val (.long (65 : Int64)), .second, .val (.long (90 : Int64)), .second, .val (.int (1 : Int32)), .unset, .unset, .unset]) rfl ks) ?_
      refine Dn.by (U' := T67.setTop (mkF m 333 #[.val (.int p0), .val (.int p1), .val (.long q2), .second, .val (.ref b1), .val (.ref b35), .val (.int (1 : Int32)), .val (.long (65 : Int64)), .second, .val (.long (90 : Int64)), .second, .val (.int (1 : Int32)), .unset, .unset, .unset] [])) (fun _ ks => XS.goto X67.here hx rfl (pc0 := 257) (pc' := 333) rfl (hb hby at_257) (by decide) (by decide) ks) ?_
      exact J _ _ _ (own_R1 _ _ (65) (90) (by decide) (by decide) (by decide) (by decide) (by decide) (fun c q1 q2 => by unfold inS; omega))
    ·
      refine Dn.by (U' := T67.setTop (mkF m 242 #[.val (.int p0), .val (.int p1), .val (.long q2), .second, .val (.ref b1), .val (.ref b35), .val (.int (2 : Int32)), .unset, .unset, .unset, .unset, .unset, .unset, .unset, .unset] [(.ref b1)])) (fun _ ks => XS.aload X67.here hx rfl (hb hby at_240) rfl rfl ks) ?_
      refine Dn.by (U' := T67.setTop (mkF m 244 #[.val (.int p0), .val (.int p1), .val (.long q2), .second, .val (.ref b1), .val (.ref b35), .val (.int (2 : Int32)), .unset, .unset, .unset, .unset, .unset, .unset, .unset, .unset] [(.int (2 : Int32)), (.ref b1)])) (fun _ ks => XS.iload X67.here hx rfl (hb hby at_242) rfl ks) ?_
      obtain ⟨cl77, Ar77, q77, S77, M77, H77, G77⟩ := id (((((((((((((((((V33b.ext E35).other W37 ne_b1_b35).other W39 ne_b1_b35).other W41 ne_b1_b35).other W43 ne_b1_b35).other W45 ne_b1_b35).other W47 ne_b1_b35).other W49 ne_b1_b35).other W51 ne_b1_b35).other W53 ne_b1_b35).other W55 ne_b1_b35).other W57 ne_b1_b35).other W59 ne_b1_b35).other W61 ne_b1_b35).other W63 ne_b1_b35).other W65 ne_b1_b35).other W67 ne_b1_b35)
      have in77 := inb_of (j := (2 : Int32)) S77 ⟨by decide, by decide⟩
      have at77 : cl77.slots[(2 : Int32).toNatClampNeg]? = some (.long (95 : Int64)) := H77.at in77 rfl
      refine Dn.by (U' := T67.setTop (mkF m 245 #[.val (.int p0), .val (.int p1), .val (.long q2), .second, .val (.ref b1), .val (.ref b35), .val (.int (2 : Int32)), .unset, .unset, .unset, .unset, .unset, .unset, .unset, .unset] [(.long (95 : Int64))])) (X67.laload hx (j := (2 : Int32)) (v := (.long (95 : Int64))) (by rw [e67]; exact Ar77.1) (State.isArrayOf_alike hZ.alike Ar77.2.1) Ar77.2.2 in77 at77 (g := (mkF m 244 #[.val (.int p0), .val (.int p1), .val (.long q2), .second, .val (.ref b1), .val (.ref b35), .val (.int (2 : Int32)), .unset, .unset, .unset, .unset, .unset, .unset, .unset, .unset] [(.int (2 : Int32)), (.ref b1)])) rfl rfl (hb hby at_244)) ?_
      refine Dn.by (U' := T67.setTop (mkF m 247 #[.val (.int p0), .val (.int p1), .val (.long q2), .second, .val (.ref b1), .val (.ref b35), .val (.int (2 : Int32)), .val (.long (95 : Int64)), .second, .unset, .unset, .unset, .unset, .unset, .unset] [])) (fun _ ks => XS.lstore X67.here hx rfl (hb hby at_245) rfl (l' := #[.val (.int p0), .val (.int p1), .val (.long q2), .second, .val (.ref b1), .val (.ref b35), .val (.int (2 : Int32)), .val (.long (95 : Int64)), .second, .unset, .unset, .unset, .unset, .unset, .unset]) rfl ks) ?_
      refine Dn.by (U' := T67.setTop (mkF m 249 #[.val (.int p0), .val (.int p1), .val (.long q2), .second, .val (.ref b1), .val (.ref b35), .val (.int (2 : Int32)), .val (.long (95 : Int64)), .second, .unset, .unset, .unset, .unset, .unset, .unset] [(.ref b35)])) (fun _ ks => XS.aload X67.here hx rfl (hb hby at_247) rfl rfl ks) ?_
      refine Dn.by (U' := T67.setTop (mkF m 251 #[.val (.int p0), .val (.int p1), .val (.long q2), .second, .val (.ref b1), .val (.ref b35), .val (.int (2 : Int32)), .val (.long (95 : Int64)), .second, .unset, .unset, .unset, .unset, .unset, .unset] [(.int (2 : Int32)), (.ref b35)])) (fun _ ks => XS.iload X67.here hx rfl (hb hby at_249) rfl ks) ?_
      obtain ⟨cl78, Ar78, q78, S78, M78, H78, G78⟩ := id V67b
      have in78 := inb_of (j := (2 : Int32)) S78 ⟨by decide, by decide⟩
      have at78 : cl78.slots[(2 : Int32).toNatClampNeg]? = some (.long (95 : Int64)) := H78.at in78 rfl
      refine Dn.by (U' := T67.setTop (mkF m 252 #[.val (.int p0), .val (.int p1), .val (.long q2), .second, .val (.ref b1), .val (.ref b35), .val (.int (2 : Int32)), .val (.long (95 : Int64)), .second, .unset, .unset, .unset, .unset, .unset, .unset] [(.long (95 : Int64))])) (X67.laload hx (j := (2 : Int32)) (v := (.long (95 : Int64))) (by rw [e67]; exact Ar78.1) (State.isArrayOf_alike hZ.alike Ar78.2.1) Ar78.2.2 in78 at78 (g := (mkF m 251 #[.val (.int p0), .val (.int p1), .val (.long q2), .second, .val (.ref b1), .val (.ref b35), .val (.int (2 : Int32)), .val (.long (95 : Int64)), .second, .unset, .unset, .unset, .unset, .unset, .unset] [(.int (2 : Int32)), (.ref b35)])) rfl rfl (hb hby at_251)) ?_
      refine Dn.by (U' := T67.setTop (mkF m 254 #[.val (.int p0), .val (.int p1), .val (.long q2), .second, .val (.ref b1), .val (.ref b35), .val (.int (2 : Int32)), .val (.long (95 : Int64)), .second, .val (.long (95 : Int64)), .second, .unset, .unset, .unset, .unset] [])) (fun _ ks => XS.lstore X67.here hx rfl (hb hby at_252) rfl (l' := #[.val (.int p0), .val (.int p1), .val (.long q2), .second, .val (.ref b1), .val (.ref b35), .val (.int (2 : Int32)), .val (.long (95 : Int64)), .second, .val (.long (95 : Int64)), .second, .unset, .unset, .unset, .unset]) rfl ks) ?_
      refine Dn.by (U' := T67.setTop (mkF m 255 #[.val (.int p0), .val (.int p1), .val (.long q2), .second, .val (.ref b1), .val (.ref b35), .val (.int (2 : Int32)), .val (.long (95 : Int64)), .second, .val (.long (95 : Int64)), .second, .unset, .unset, .unset, .unset] [(.int (1 : Int32))])) (fun _ ks => XS.iconst X67.here hx rfl (hb hby at_254)  ks) ?_
      refine Dn.by (U' := T67.setTop (mkF m 257 #[.val (.int p0), .val (.int p1), .val (.long q2), .second, .val (.ref b1), .val (.ref b35), .val (.int (2 : Int32)), .val (.long (95 : Int64)), .second, .val (.long (95 : Int64)), .second, .val (.int (1 : Int32)), .unset, .unset, .unset] [])) (fun _ ks => XS.istore X67.here hx rfl (hb hby at_255) rfl (l' := #[.val (.int p0), .val (.int p1), .val (.long q2), .second, .val (.ref b1), .val (.ref b35), .val (.int (2 : Int32)), .val (.long (95 : Int64)), .second, .val (.long (95 : Int64)), .second, .val (.int (1 : Int32)), .unset, .unset, .unset]) rfl ks) ?_
      refine Dn.by (U' := T67.setTop (mkF m 333 #[.val (.int p0), .val (.int p1), .val (.long q2), .second, .val (.ref b1), .val (.ref b35), .val (.int (2 : Int32)), .val (.long (95 : Int64)), .second, .val (.long (95 : Int64)), .second, .val (.int (1 : Int32)), .unset, .unset, .unset] [])) (fun _ ks => XS.goto X67.here hx rfl (pc0 := 257) (pc' := 333) rfl (hb hby at_257) (by decide) (by decide) ks) ?_
      exact J _ _ _ (own_R1 _ _ (95) (95) (by decide) (by decide) (by decide) (by decide) (by decide) (fun c q1 q2 => by unfold inS; omega))
    ·
      refine Dn.by (U' := T67.setTop (mkF m 242 #[.val (.int p0), .val (.int p1), .val (.long q2), .second, .val (.ref b1), .val (.ref b35), .val (.int (3 : Int32)), .unset, .unset, .unset, .unset, .unset, .unset, .unset, .unset] [(.ref b1)])) (fun _ ks => XS.aload X67.here hx rfl (hb hby at_240) rfl rfl ks) ?_
      refine Dn.by (U' := T67.setTop (mkF m 244 #[.val (.int p0), .val (.int p1), .val (.long q2), .second, .val (.ref b1), .val (.ref b35), .val (.int (3 : Int32)), .unset, .unset, .unset, .unset, .unset, .unset, .unset, .unset] [(.int (3 : Int32)), (.ref b1)])) (fun _ ks => XS.iload X67.here hx rfl (hb hby at_242) rfl ks) ?_
      obtain ⟨cl79, Ar79, q79, S79, M79, H79, G79⟩ := id (((((((((((((((((V33b.ext E35).other W37 ne_b1_b35).other W39 ne_b1_b35).other W41 ne_b1_b35).other W43 ne_b1_b35).other W45 ne_b1_b35).other W47 ne_b1_b35).other W49 ne_b1_b35).other W51 ne_b1_b35).other W53 ne_b1_b35).other W55 ne_b1_b35).other W57 ne_b1_b35).other W59 ne_b1_b35).other W61 ne_b1_b35).other W63 ne_b1_b35).other W65 ne_b1_b35).other W67 ne_b1_b35)
      have in79 := inb_of (j := (3 : Int32)) S79 ⟨by decide, by decide⟩
      have at79 : cl79.slots[(3 : Int32).toNatClampNeg]? = some (.long (97 : Int64)) := H79.at in79 rfl
      refine Dn.by (U' := T67.setTop (mkF m 245 #[.val (.int p0), .val (.int p1), .val (.long q2), .second, .val (.ref b1), .val (.ref b35), .val (.int (3 : Int32)), .unset, .unset, .unset, .unset, .unset, .unset, .unset, .unset] [(.long (97 : Int64))])) (X67.laload hx (j := (3 : Int32)) (v := (.long (97 : Int64))) (by rw [e67]; exact Ar79.1) (State.isArrayOf_alike hZ.alike Ar79.2.1) Ar79.2.2 in79 at79 (g := (mkF m 244 #[.val (.int p0), .val (.int p1), .val (.long q2), .second, .val (.ref b1), .val (.ref b35), .val (.int (3 : Int32)), .unset, .unset, .unset, .unset, .unset, .unset, .unset, .unset] [(.int (3 : Int32)), (.ref b1)])) rfl rfl (hb hby at_244)) ?_
      refine Dn.by (U' := T67.setTop (mkF m 247 #[.val (.int p0), .val (.int p1), .val (.long q2), .second, .val (.ref b1), .val (.ref b35), .val (.int (3 : Int32)), .val (.long (97 : Int64)), .second, .unset, .unset, .unset, .unset, .unset, .unset] [])) (fun _ ks => XS.lstore X67.here hx rfl (hb hby at_245) rfl (l' := #[.val (.int p0), .val (.int p1), .val (.long q2), .second, .val (.ref b1), .val (.ref b35), .val (.int (3 : Int32)), .val (.long (97 : Int64)), .second, .unset, .unset, .unset, .unset, .unset, .unset]) rfl ks) ?_
      refine Dn.by (U' := T67.setTop (mkF m 249 #[.val (.int p0), .val (.int p1), .val (.long q2), .second, .val (.ref b1), .val (.ref b35), .val (.int (3 : Int32)), .val (.long (97 : Int64)), .second, .unset, .unset, .unset, .unset, .unset, .unset] [(.ref b35)])) (fun _ ks => XS.aload X67.here hx rfl (hb hby at_247) rfl rfl ks) ?_
      refine Dn.by (U' := T67.setTop (mkF m 251 #[.val (.int p0), .val (.int p1), .val (.long q2), .second, .val (.ref b1), .val (.ref b35), .val (.int (3 : Int32)), .val (.long (97 : Int64)), .second, .unset, .unset, .unset, .unset, .unset, .unset] [(.int (3 : Int32)), (.ref b35)])) (fun _ ks => XS.iload X67.here hx rfl (hb hby at_249) rfl ks) ?_
      obtain ⟨cl80, Ar80, q80, S80, M80, H80, G80⟩ := id V67b
      have in80 := inb_of (j := (3 : Int32)) S80 ⟨by decide, by decide⟩
      have at80 : cl80.slots[(3 : Int32).toNatClampNeg]? = some (.long (122 : Int64)) := H80.at in80 rfl
      refine Dn.by (U' := T67.setTop (mkF m 252 #[.val (.int p0), .val (.int p1), .val (.long q2), .second, .val (.ref b1), .val (.ref b35), .val (.int (3 : Int32)), .val (.long (97 : Int64)), .second, .unset, .unset, .unset, .unset, .unset, .unset] [(.long (122 : Int64))])) (X67.laload hx (j := (3 : Int32)) (v := (.long (122 : Int64))) (by rw [e67]; exact Ar80.1) (State.isArrayOf_alike hZ.alike Ar80.2.1) Ar80.2.2 in80 at80 (g := (mkF m 251 #[.val (.int p0), .val (.int p1), .val (.long q2), .second, .val (.ref b1), .val (.ref b35), .val (.int (3 : Int32)), .val (.long (97 : Int64)), .second, .unset, .unset, .unset, .unset, .unset, .unset] [(.int (3 : Int32)), (.ref b35)])) rfl rfl (hb hby at_251)) ?_
      refine Dn.by (U' := T67.setTop (mkF m 254 #[.val (.int p0), .val (.int p1), .val (.long q2), .second, .val (.ref b1), .val (.ref b35), .val (.int (3 : Int32)), .val (.long (97 : Int64)), .second, .val (.long (122 : Int64)), .second, .unset, .unset, .unset, .unset] [])) (fun _ ks => XS.lstore X67.here hx rfl (hb hby at_252) rfl (l' := #[.val (.int p0), .val (.int p1), .val (.long q2), .second, .val (.ref b1), .val (.ref b35), .val (.int (3 : Int32)), .val (.long (97 : Int64)), .second, .val (.long (122 : Int64)), .second, .unset, .unset, .unset, .unset]) rfl ks) ?_
      refine Dn.by (U' := T67.setTop (mkF m 255 #[.val (.int p0), .val (.int p1), .val (.long q2), .second, .val (.ref b1), .val (.ref b35), .val (.int (3 : Int32)), .val (.long (97 : Int64)), .second, .val (.long (122 : Int64)), .second, .unset, .unset, .unset, .unset] [(.int (1 : Int32))])) (fun _ ks => XS.iconst X67.here hx rfl (hb hby at_254)  ks) ?_
      refine Dn.by (U' := T67.setTop (mkF m 257 #[.val (.int p0), .val (.int p1), .val (.long q2), .second, .val (.ref b1), .val (.ref b35), .val (.int (3 : Int32)), .val (.long (97 : Int64)), .second, .val (.long (122 : Int64)), .second, .val (.int (1 : Int32)), .unset, .unset, .unset] [])) (fun _ ks => XS.istore X67.here hx rfl (hb hby at_255) rfl (l' := #[.val (.int p0), .val (.int p1), .val (.long q2), .second, .val (.ref b1), .val (.ref b35), .val (.int (3 : Int32)), .val (.long (97 : Int64)), .second, .val (.long (122 : Int64)), .second, .val (.int (1 : Int32)), .unset, .unset, .unset]) rfl ks) ?_
      refine Dn.by (U' := T67.setTop (mkF m 333 #[.val (.int p0), .val (.int p1), .val (.long q2), .second, .val (.ref b1), .val (.ref b35), .val (.int (3 : Int32)), .val (.long (97 : Int64)), .second, .val (.long (122 : Int64)), .second, .val (.int (1 : Int32)), .unset, .unset, .unset] [])) (fun _ ks => XS.goto X67.here hx rfl (pc0 := 257) (pc' := 333) rfl (hb hby at_257) (by decide) (by decide) ks) ?_
      exact J _ _ _ (own_R1 _ _ (97) (122) (by decide) (by decide) (by decide) (by decide) (by decide) (fun c q1 q2 => by unfold inS; omega))
    ·
      refine Dn.by (U' := T67.setTop (mkF m 242 #[.val (.int p0), .val (.int p1), .val (.long q2), .second, .val (.ref b1), .val (.ref b35), .val (.int (4 : Int32)), .unset, .unset, .unset, .unset, .unset, .unset, .unset, .unset] [(.ref b1)])) (fun _ ks => XS.aload X67.here hx rfl (hb hby at_240) rfl rfl ks) ?_
      refine Dn.by (U' := T67.setTop (mkF m 244 #[.val (.int p0), .val (.int p1), .val (.long q2), .second, .val (.ref b1), .val (.ref b35), .val (.int (4 : Int32)), .unset, .unset, .unset, .unset, .unset, .unset, .unset, .unset] [(.int (4 : Int32)), (.ref b1)])) (fun _ ks => XS.iload X67.here hx rfl (hb hby at_242) rfl ks) ?_
      obtain ⟨cl81, Ar81, q81, S81, M81, H81, G81⟩ := id (((((((((((((((((V33b.ext E35).other W37 ne_b1_b35).other W39 ne_b1_b35).other W41 ne_b1_b35).other W43 ne_b1_b35).other W45 ne_b1_b35).other W47 ne_b1_b35).other W49 ne_b1_b35).other W51 ne_b1_b35).other W53 ne_b1_b35).other W55 ne_b1_b35).other W57 ne_b1_b35).other W59 ne_b1_b35).other W61 ne_b1_b35).other W63 ne_b1_b35).other W65 ne_b1_b35).other W67 ne_b1_b35)
      have in81 := inb_of (j := (4 : Int32)) S81 ⟨by decide, by decide⟩
      have at81 : cl81.slots[(4 : Int32).toNatClampNeg]? = some (.long (192 : Int64)) := H81.at in81 rfl
      refine Dn.by (U' := T67.setTop (mkF m 245 #[.val (.int p0), .val (.int p1), .val (.long q2), .second, .val (.ref b1), .val (.ref b35), .val (.int (4 : Int32)), .unset, .unset, .unset, .unset, .unset, .unset, .unset, .unset] [(.long (192 : Int64))])) (X67.laload hx (j := (4 : Int32)) (v := (.long (192 : Int64))) (by rw [e67]; exact Ar81.1) (State.isArrayOf_alike hZ.alike Ar81.2.1) Ar81.2.2 in81 at81 (g := (mkF m 244 #[.val (.int p0), .val (.int p1), .val (.long q2), .second, .val (.ref b1), .val (.ref b35), .val (.int (4 : Int32)), .unset, .unset, .unset, .unset, .unset, .unset, .unset, .unset] [(.int (4 : Int32)), (.ref b1)])) rfl rfl (hb hby at_244)) ?_
      refine Dn.by (U' := T67.setTop (mkF m 247 #[.val (.int p0), .val (.int p1), .val (.long q2), .second, .val (.ref b1), .val (.ref b35), .val (.int (4 : Int32)), .val (.long (192 : Int64)), .second, .unset, .unset, .unset, .unset, .unset, .unset] [])) (fun _ ks => XS.lstore X67.here hx rfl (hb hby at_245) rfl (l' := #[.val (.int p0), .val (.int p1), .val (.long q2), .second, .val (.ref b1), .val (.ref b35), .val (.int (4 : Int32)), .val (.long (192 : Int64)), .second, .unset, .unset, .unset, .unset, .unset, .unset]) rfl ks) ?_
      refine Dn.by (U' := T67.setTop (mkF m 249 #[.val (.int p0), .val (.int p1), .val (.long q2), .second, .val (.ref b1), .val (.ref b35), .val (.int (4 : Int32)), .val (.long (192 : Int64)), .second, .unset, .unset, .unset, .unset, .unset, .unset] [(.ref b35)])) (fun _ ks => XS.aload X67.here hx rfl (hb hby at_247) rfl rfl ks) ?_
      refine Dn.by (U' := T67.setTop (mkF m 251 #[.val (.int p0), .val (.int p1), .val (.long q2), .second, .val (.ref b1), .val (.ref b35), .val (.int (4 : Int32)), .val (.long (192 : Int64)), .second, .unset, .unset, .unset, .unset, .unset, .unset] [(.int (4 : Int32)), (.ref b35)])) (fun _ ks => XS.iload X67.here hx rfl (hb hby at_249) rfl ks) ?_
      obtain ⟨cl82, Ar82, q82, S82, M82, H82, G82⟩ := id V67b
      have in82 := inb_of (j := (4 : Int32)) S82 ⟨by decide, by decide⟩
      have at82 : cl82.slots[(4 : Int32).toNatClampNeg]? = some (.long (214 : Int64)) := H82.at in82 rfl
      refine Dn.by (U' := T67.setTop (mkF m 252 #[.val (.int p0), .val (.int p1), .val (.long q2), .second, .val (.ref b1), .val (.ref b35), .val (.int (4 : Int32)), .val (.long (192 : Int64)), .second, .unset, .unset, .unset, .unset, .unset, .unset] [(.long (214 : Int64))])) (X67.laload hx (j := (4 : Int32)) (v := (.long (214 : Int64))) (by rw [e67]; exact Ar82.1) (State.isArrayOf_alike hZ.alike Ar82.2.1) Ar82.2.2 in82 at82 (g := (mkF m 251 #[.val (.int p0), .val (.int p1), .val (.long q2), .second, .val (.ref b1), .val (.ref b35), .val (.int (4 : Int32)), .val (.long (192 : Int64)), .second, .unset, .unset, .unset, .unset, .unset, .unset] [(.int (4 : Int32)), (.ref b35)])) rfl rfl (hb hby at_251)) ?_
      refine Dn.by (U' := T67.setTop (mkF m 254 #[.val (.int p0), .val (.int p1), .val (.long q2), .second, .val (.ref b1), .val (.ref b35), .val (.int (4 : Int32)), .val (.long (192 : Int64)), .second, .val (.long (214 : Int64)), .second, .unset, .unset, .unset, .unset] [])) (fun _ ks => XS.lstore X67.here hx rfl (hb hby at_252) rfl (l' := #[.val (.int p0), .val (.int p1), .val (.long q2), .second, .val (.ref b1), .val (.ref b35), .val (.int (4 : Int32)), .val (.long (192 : Int64)), .second, .val (.long (214 : Int64)), .second, .unset, .unset, .unset, .unset]) rfl ks) ?_
      refine Dn.by (U' := T67.setTop (mkF m 255 #[.val (.int p0), .val (.int p1), .val (.long q2), .second, .val (.ref b1), .val (.ref b35), .val (.int (4 : Int32)), .val (.long (192 : Int64)), .second, .val (.long (214 : Int64)), .second, .unset, .unset, .unset, .unset] [(.int (1 : Int32))])) (fun _ ks => XS.iconst X67.here hx rfl (hb hby at_254)  ks) ?_
      refine Dn.by (U' := T67.setTop (mkF m 257 #[.val (.int p0), .val (.int p1), .val (.long q2), .second, .val (.ref b1), .val (.ref b35), .val (.int (4 : Int32)), .val (.long (192 : Int64)), .second, .val (.long (214 : Int64)), .second, .val (.int (1 : Int32)), .unset, .unset, .unset] [])) (fun _ ks => XS.istore X67.here hx rfl (hb hby at_255) rfl (l' := #[.val (.int p0), .val (.int p1), .val (.long q2), .second, .val (.ref b1), .val (.ref b35), .val (.int (4 : Int32)), .val (.long (192 : Int64)), .second, .val (.long (214 : Int64)), .second, .val (.int (1 : Int32)), .unset, .unset, .unset]) rfl ks) ?_
      refine Dn.by (U' := T67.setTop (mkF m 333 #[.val (.int p0), .val (.int p1), .val (.long q2), .second, .val (.ref b1), .val (.ref b35), .val (.int (4 : Int32)), .val (.long (192 : Int64)), .second, .val (.long (214 : Int64)), .second, .val (.int (1 : Int32)), .unset, .unset, .unset] [])) (fun _ ks => XS.goto X67.here hx rfl (pc0 := 257) (pc' := 333) rfl (hb hby at_257) (by decide) (by decide) ks) ?_
      exact J _ _ _ (own_R1 _ _ (192) (214) (by decide) (by decide) (by decide) (by decide) (by decide) (fun c q1 q2 => by unfold inS; omega))
    ·
      refine Dn.by (U' := T67.setTop (mkF m 242 #[.val (.int p0), .val (.int p1), .val (.long q2), .second, .val (.ref b1), .val (.ref b35), .val (.int (5 : Int32)), .unset, .unset, .unset, .unset, .unset, .unset, .unset, .unset] [(.ref b1)])) (fun _ ks => XS.aload X67.here hx rfl (hb hby at_240) rfl rfl ks) ?_
      refine Dn.by (U' := T67.setTop (mkF m 244 #[.val (.int p0), .val (.int p1), .val (.long q2), .second, .val (.ref b1), .val (.ref b35), .val (.int (5 : Int32)), .unset, .unset, .unset, .unset, .unset, .unset, .unset, .unset] [(.int (5 : Int32)), (.ref b1)])) (fun _ ks => XS.iload X67.here hx rfl (hb hby at_242) rfl ks) ?_
      obtain ⟨cl83, Ar83, q83, S83, M83, H83, G83⟩ := id (((((((((((((((((V33b.ext E35).other W37 ne_b1_b35).other W39 ne_b1_b35).other W41 ne_b1_b35).other W43 ne_b1_b35).other W45 ne_b1_b35).other W47 ne_b1_b35).other W49 ne_b1_b35).other W51 ne_b1_b35).other W53 ne_b1_b35).other W55 ne_b1_b35).other W57 ne_b1_b35).other W59 ne_b1_b35).other W61 ne_b1_b35).other W63 ne_b1_b35).other W65 ne_b1_b35).other W67 ne_b1_b35)
      have in83 := inb_of (j := (5 : Int32)) S83 ⟨by decide, by decide⟩
      have at83 : cl83.slots[(5 : Int32).toNatClampNeg]? = some (.long (216 : Int64)) := H83.at in83 rfl
      refine Dn.by (U' := T67.setTop (mkF m 245 #[.val (.int p0), .val (.int p1), .val (.long q2), .second, .val (.ref b1), .val (.ref b35), .val (.int (5 : Int32)), .unset, .unset, .unset, .unset, .unset, .unset, .unset, .unset] [(.long (216 : Int64))])) (X67.laload hx (j := (5 : Int32)) (v := (.long (216 : Int64))) (by rw [e67]; exact Ar83.1) (State.isArrayOf_alike hZ.alike Ar83.2.1) Ar83.2.2 in83 at83 (g := (mkF m 244 #[.val (.int p0), .val (.int p1), .val (.long q2), .second, .val (.ref b1), .val (.ref b35), .val (.int (5 : Int32)), .unset, .unset, .unset, .unset, .unset, .unset, .unset, .unset] [(.int (5 : Int32)), (.ref b1)])) rfl rfl (hb hby at_244)) ?_
      refine Dn.by (U' := T67.setTop (mkF m 247 #[.val (.int p0), .val (.int p1), .val (.long q2), .second, .val (.ref b1), .val (.ref b35), .val (.int (5 : Int32)), .val (.long (216 : Int64)), .second, .unset, .unset, .unset, .unset, .unset, .unset] [])) (fun _ ks => XS.lstore X67.here hx rfl (hb hby at_245) rfl (l' := #[.val (.int p0), .val (.int p1), .val (.long q2), .second, .val (.ref b1), .val (.ref b35), .val (.int (5 : Int32)), .val (.long (216 : Int64)), .second, .unset, .unset, .unset, .unset, .unset, .unset]) rfl ks) ?_
      refine Dn.by (U' := T67.setTop (mkF m 249 #[.val (.int p0), .val (.int p1), .val (.long q2), .second, .val (.ref b1), .val (.ref b35), .val (.int (5 : Int32)), .val (.long (216 : Int64)), .second, .unset, .unset, .unset, .unset, .unset, .unset] [(.ref b35)])) (fun _ ks => XS.aload X67.here hx rfl (hb hby at_247) rfl rfl ks) ?_
      refine Dn.by (U' := T67.setTop (mkF m 251 #[.val (.int p0), .val (.int p1), .val (.long q2), .second, .val (.ref b1), .val (.ref b35), .val (.int (5 : Int32)), .val (.long (216 : Int64)), .second, .unset, .unset, .unset, .unset, .unset, .unset] [(.int (5 : Int32)), (.ref b35)])) (fun _ ks => XS.iload X67.here hx rfl (hb hby at_249) rfl ks) ?_
      obtain ⟨cl84, Ar84, q84, S84, M84, H84, G84⟩ := id V67b
      have in84 := inb_of (j := (5 : Int32)) S84 ⟨by decide, by decide⟩
      have at84 : cl84.slots[(5 : Int32).toNatClampNeg]? = some (.long (246 : Int64)) := H84.at in84 rfl
      refine Dn.by (U' := T67.setTop (mkF m 252 #[.val (.int p0), .val (.int p1), .val (.long q2), .second, .val (.ref b1), .val (.ref b35), .val (.int (5 : Int32)), .val (.long (216 : Int64)), .second, .unset, .unset, .unset, .unset, .unset, .unset] [(.long (246 : Int64))])) (X67.laload hx (j := (5 : Int32)) (v := (.long (246 : Int64))) (by rw [e67]; exact Ar84.1) (State.isArrayOf_alike hZ.alike Ar84.2.1) Ar84.2.2 in84 at84 (g := (mkF m 251 #[.val (.int p0), .val (.int p1), .val (.long q2), .second, .val (.ref b1), .val (.ref b35), .val (.int (5 : Int32)), .val (.long (216 : Int64)), .second, .unset, .unset, .unset, .unset, .unset, .unset] [(.int (5 : Int32)), (.ref b35)])) rfl rfl (hb hby at_251)) ?_
      refine Dn.by (U' := T67.setTop (mkF m 254 #[.val (.int p0), .val (.int p1), .val (.long q2), .second, .val (.ref b1), .val (.ref b35), .val (.int (5 : Int32)), .val (.long (216 : Int64)), .second, .val (.long (246 : Int64)), .second, .unset, .unset, .unset, .unset] [])) (fun _ ks => XS.lstore X67.here hx rfl (hb hby at_252) rfl (l' := #[.val (.int p0), .val (.int p1), .val (.long q2), .second, .val (.ref b1), .val (.ref b35), .val (.int (5 : Int32)), .val (.long (216 : Int64)), .second, .val (.long (246 : Int64)), .second, .unset, .unset, .unset, .unset]) rfl ks) ?_
      refine Dn.by (U' := T67.setTop (mkF m 255 #[.val (.int p0), .val (.int p1), .val (.long q2), .second, .val (.ref b1), .val (.ref b35), .val (.int (5 : Int32)), .val (.long (216 : Int64)), .second, .val (.long (246 : Int64)), .second, .unset, .unset, .unset, .unset] [(.int (1 : Int32))])) (fun _ ks => XS.iconst X67.here hx rfl (hb hby at_254)  ks) ?_
      refine Dn.by (U' := T67.setTop (mkF m 257 #[.val (.int p0), .val (.int p1), .val (.long q2), .second, .val (.ref b1), .val (.ref b35), .val (.int (5 : Int32)), .val (.long (216 : Int64)), .second, .val (.long (246 : Int64)), .second, .val (.int (1 : Int32)), .unset, .unset, .unset] [])) (fun _ ks => XS.istore X67.here hx rfl (hb hby at_255) rfl (l' := #[.val (.int p0), .val (.int p1), .val (.long q2), .second, .val (.ref b1), .val (.ref b35), .val (.int (5 : Int32)), .val (.long (216 : Int64)), .second, .val (.long (246 : Int64)), .second, .val (.int (1 : Int32)), .unset, .unset, .unset]) rfl ks) ?_
      refine Dn.by (U' := T67.setTop (mkF m 333 #[.val (.int p0), .val (.int p1), .val (.long q2), .second, .val (.ref b1), .val (.ref b35), .val (.int (5 : Int32)), .val (.long (216 : Int64)), .second, .val (.long (246 : Int64)), .second, .val (.int (1 : Int32)), .unset, .unset, .unset] [])) (fun _ ks => XS.goto X67.here hx rfl (pc0 := 257) (pc' := 333) rfl (hb hby at_257) (by decide) (by decide) ks) ?_
      exact J _ _ _ (own_R1 _ _ (216) (246) (by decide) (by decide) (by decide) (by decide) (by decide) (fun c q1 q2 => by unfold inS; omega))
    ·
      refine Dn.by (U' := T67.setTop (mkF m 242 #[.val (.int p0), .val (.int p1), .val (.long q2), .second, .val (.ref b1), .val (.ref b35), .val (.int (6 : Int32)), .unset, .unset, .unset, .unset, .unset, .unset, .unset, .unset] [(.ref b1)])) (fun _ ks => XS.aload X67.here hx rfl (hb hby at_240) rfl rfl ks) ?_
      refine Dn.by (U' := T67.setTop (mkF m 244 #[.val (.int p0), .val (.int p1), .val (.long q2), .second, .val (.ref b1), .val (.ref b35), .val (.int (6 : Int32)), .unset, .unset, .unset, .unset, .unset, .unset, .unset, .unset] [(.int (6 : Int32)), (.ref b1)])) (fun _ ks => XS.iload X67.here hx rfl (hb hby at_242) rfl ks) ?_
      obtain ⟨cl85, Ar85, q85, S85, M85, H85, G85⟩ := id (((((((((((((((((V33b.ext E35).other W37 ne_b1_b35).other W39 ne_b1_b35).other W41 ne_b1_b35).other W43 ne_b1_b35).other W45 ne_b1_b35).other W47 ne_b1_b35).other W49 ne_b1_b35).other W51 ne_b1_b35).other W53 ne_b1_b35).other W55 ne_b1_b35).other W57 ne_b1_b35).other W59 ne_b1_b35).other W61 ne_b1_b35).other W63 ne_b1_b35).other W65 ne_b1_b35).other W67 ne_b1_b35)
      have in85 := inb_of (j := (6 : Int32)) S85 ⟨by decide, by decide⟩
      have at85 : cl85.slots[(6 : Int32).toNatClampNeg]? = some (.long (248 : Int64)) := H85.at in85 rfl
      refine Dn.by (U' := T67.setTop (mkF m 245 #[.val (.int p0), .val (.int p1), .val (.long q2), .second, .val (.ref b1), .val (.ref b35), .val (.int (6 : Int32)), .unset, .unset, .unset, .unset, .unset, .unset, .unset, .unset] [(.long (248 : Int64))])) (X67.laload hx (j := (6 : Int32)) (v := (.long (248 : Int64))) (by rw [e67]; exact Ar85.1) (State.isArrayOf_alike hZ.alike Ar85.2.1) Ar85.2.2 in85 at85 (g := (mkF m 244 #[.val (.int p0), .val (.int p1), .val (.long q2), .second, .val (.ref b1), .val (.ref b35), .val (.int (6 : Int32)), .unset, .unset, .unset, .unset, .unset, .unset, .unset, .unset] [(.int (6 : Int32)), (.ref b1)])) rfl rfl (hb hby at_244)) ?_
      refine Dn.by (U' := T67.setTop (mkF m 247 #[.val (.int p0), .val (.int p1), .val (.long q2), .second, .val (.ref b1), .val (.ref b35), .val (.int (6 : Int32)), .val (.long (248 : Int64)), .second, .unset, .unset, .unset, .unset, .unset, .unset] [])) (fun _ ks => XS.lstore X67.here hx rfl (hb hby at_245) rfl (l' := #[.val (.int p0), .val (.int p1), .val (.long q2), .second, .val (.ref b1), .val (.ref b35), .val (.int (6 : Int32)), .val (.long (248 : Int64)), .second, .unset, .unset, .unset, .unset, .unset, .unset]) rfl ks) ?_
      refine Dn.by (U' := T67.setTop (mkF m 249 #[.val (.int p0), .val (.int p1), .val (.long q2), .second, .val (.ref b1), .val (.ref b35), .val (.int (6 : Int32)), .val (.long (248 : Int64)), .second, .unset, .unset, .unset, .unset, .unset, .unset] [(.ref b35)])) (fun _ ks => XS.aload X67.here hx rfl (hb hby at_247) rfl rfl ks) ?_
      refine Dn.by (U' := T67.setTop (mkF m 251 #[.val (.int p0), .val (.int p1), .val (.long q2), .second, .val (.ref b1), .val (.ref b35), .val (.int (6 : Int32)), .val (.long (248 : Int64)), .second, .unset, .unset, .unset, .unset, .unset, .unset] [(.int (6 : Int32)), (.ref b35)])) (fun _ ks => XS.iload X67.here hx rfl (hb hby at_249) rfl ks) ?_
      obtain ⟨cl86, Ar86, q86, S86, M86, H86, G86⟩ := id V67b
      have in86 := inb_of (j := (6 : Int32)) S86 ⟨by decide, by decide⟩
      have at86 : cl86.slots[(6 : Int32).toNatClampNeg]? = some (.long (767 : Int64)) := H86.at in86 rfl
      refine Dn.by (U' := T67.setTop (mkF m 252 #[.val (.int p0), .val (.int p1), .val (.long q2), .second, .val (.ref b1), .val (.ref b35), .val (.int (6 : Int32)), .val (.long (248 : Int64)), .second, .unset, .unset, .unset, .unset, .unset, .unset] [(.long (767 : Int64))])) (X67.laload hx (j := (6 : Int32)) (v := (.long (767 : Int64))) (by rw [e67]; exact Ar86.1) (State.isArrayOf_alike hZ.alike Ar86.2.1) Ar86.2.2 in86 at86 (g := (mkF m 251 #[.val (.int p0), .val (.int p1), .val (.long q2), .second, .val (.ref b1), .val (.ref b35), .val (.int (6 : Int32)), .val (.long (248 : Int64)), .second, .unset, .unset, .unset, .unset, .unset, .unset] [(.int (6 : Int32)), (.ref b35)])) rfl rfl (hb hby at_251)) ?_
      refine Dn.by (U' := T67.setTop (mkF m 254 #[.val (.int p0), .val (.int p1), .val (.long q2), .second, .val (.ref b1), .val (.ref b35), .val (.int (6 : Int32)), .val (.long (248 : Int64)), .second, .val (.long (767 : Int64)), .second, .unset, .unset, .unset, .unset] [])) (fun _ ks => XS.lstore X67.here hx rfl (hb hby at_252) rfl (l' := #[.val (.int p0), .val (.int p1), .val (.long q2), .second, .val (.ref b1), .val (.ref b35), .val (.int (6 : Int32)), .val (.long (248 : Int64)), .second, .val (.long (767 : Int64)), .second, .unset, .unset, .unset, .unset]) rfl ks) ?_
      refine Dn.by (U' := T67.setTop (mkF m 255 #[.val (.int p0), .val (.int p1), .val (.long q2), .second, .val (.ref b1), .val (.ref b35), .val (.int (6 : Int32)), .val (.long (248 : Int64)), .second, .val (.long (767 : Int64)), .second, .unset, .unset, .unset, .unset] [(.int (1 : Int32))])) (fun _ ks => XS.iconst X67.here hx rfl (hb hby at_254)  ks) ?_
      refine Dn.by (U' := T67.setTop (mkF m 257 #[.val (.int p0), .val (.int p1), .val (.long q2), .second, .val (.ref b1), .val (.ref b35), .val (.int (6 : Int32)), .val (.long (248 : Int64)), .second, .val (.long (767 : Int64)), .second, .val (.int (1 : Int32)), .unset, .unset, .unset] [])) (fun _ ks => XS.istore X67.here hx rfl (hb hby at_255) rfl (l' := #[.val (.int p0), .val (.int p1), .val (.long q2), .second, .val (.ref b1), .val (.ref b35), .val (.int (6 : Int32)), .val (.long (248 : Int64)), .second, .val (.long (767 : Int64)), .second, .val (.int (1 : Int32)), .unset, .unset, .unset]) rfl ks) ?_
      refine Dn.by (U' := T67.setTop (mkF m 333 #[.val (.int p0), .val (.int p1), .val (.long q2), .second, .val (.ref b1), .val (.ref b35), .val (.int (6 : Int32)), .val (.long (248 : Int64)), .second, .val (.long (767 : Int64)), .second, .val (.int (1 : Int32)), .unset, .unset, .unset] [])) (fun _ ks => XS.goto X67.here hx rfl (pc0 := 257) (pc' := 333) rfl (hb hby at_257) (by decide) (by decide) ks) ?_
      exact J _ _ _ (own_R1 _ _ (248) (767) (by decide) (by decide) (by decide) (by decide) (by decide) (fun c q1 q2 => by unfold inS; omega))
    ·
      refine Dn.by (U' := T67.setTop (mkF m 242 #[.val (.int p0), .val (.int p1), .val (.long q2), .second, .val (.ref b1), .val (.ref b35), .val (.int (7 : Int32)), .unset, .unset, .unset, .unset, .unset, .unset, .unset, .unset] [(.ref b1)])) (fun _ ks => XS.aload X67.here hx rfl (hb hby at_240) rfl rfl ks) ?_
      refine Dn.by (U' := T67.setTop (mkF m 244 #[.val (.int p0), .val (.int p1), .val (.long q2), .second, .val (.ref b1), .val (.ref b35), .val (.int (7 : Int32)), .unset, .unset, .unset, .unset, .unset, .unset, .unset, .unset] [(.int (7 : Int32)), (.ref b1)])) (fun _ ks => XS.iload X67.here hx rfl (hb hby at_242) rfl ks) ?_
      obtain ⟨cl87, Ar87, q87, S87, M87, H87, G87⟩ := id (((((((((((((((((V33b.ext E35).other W37 ne_b1_b35).other W39 ne_b1_b35).other W41 ne_b1_b35).other W43 ne_b1_b35).other W45 ne_b1_b35).other W47 ne_b1_b35).other W49 ne_b1_b35).other W51 ne_b1_b35).other W53 ne_b1_b35).other W55 ne_b1_b35).other W57 ne_b1_b35).other W59 ne_b1_b35).other W61 ne_b1_b35).other W63 ne_b1_b35).other W65 ne_b1_b35).other W67 ne_b1_b35)
      have in87 := inb_of (j := (7 : Int32)) S87 ⟨by decide, by decide⟩
      have at87 : cl87.slots[(7 : Int32).toNatClampNeg]? = some (.long (880 : Int64)) := H87.at in87 rfl
      refine Dn.by (U' := T67.setTop (mkF m 245 #[.val (.int p0), .val (.int p1), .val (.long q2), .second, .val (.ref b1), .val (.ref b35), .val (.int (7 : Int32)), .unset, .unset, .unset, .unset, .unset, .unset, .unset, .unset] [(.long (880 : Int64))])) (X67.laload hx (j := (7 : Int32)) (v := (.long (880 : Int64))) (by rw [e67]; exact Ar87.1) (State.isArrayOf_alike hZ.alike Ar87.2.1) Ar87.2.2 in87 at87 (g := (mkF m 244 #[.val (.int p0), .val (.int p1), .val (.long q2), .second, .val (.ref b1), .val (.ref b35), .val (.int (7 : Int32)), .unset, .unset, .unset, .unset, .unset, .unset, .unset, .unset] [(.int (7 : Int32)), (.ref b1)])) rfl rfl (hb hby at_244)) ?_
      refine Dn.by (U' := T67.setTop (mkF m 247 #[.val (.int p0), .val (.int p1), .val (.long q2), .second, .val (.ref b1), .val (.ref b35), .val (.int (7 : Int32)), .val (.long (880 : Int64)), .second, .unset, .unset, .unset, .unset, .unset, .unset] [])) (fun _ ks => XS.lstore X67.here hx rfl (hb hby at_245) rfl (l' := #[.val (.int p0), .val (.int p1), .val (.long q2), .second, .val (.ref b1), .val (.ref b35), .val (.int (7 : Int32)), .val (.long (880 : Int64)), .second, .unset, .unset, .unset, .unset, .unset, .unset]) rfl ks) ?_
      refine Dn.by (U' := T67.setTop (mkF m 249 #[.val (.int p0), .val (.int p1), .val (.long q2), .second, .val (.ref b1), .val (.ref b35), .val (.int (7 : Int32)), .val (.long (880 : Int64)), .second, .unset, .unset, .unset, .unset, .unset, .unset] [(.ref b35)])) (fun _ ks => XS.aload X67.here hx rfl (hb hby at_247) rfl rfl ks) ?_
      refine Dn.by (U' := T67.setTop (mkF m 251 #[.val (.int p0), .val (.int p1), .val (.long q2), .second, .val (.ref b1), .val (.ref b35), .val (.int (7 : Int32)), .val (.long (880 : Int64)), .second, .unset, .unset, .unset, .unset, .unset, .unset] [(.int (7 : Int32)), (.ref b35)])) (fun _ ks => XS.iload X67.here hx rfl (hb hby at_249) rfl ks) ?_
      obtain ⟨cl88, Ar88, q88, S88, M88, H88, G88⟩ := id V67b
      have in88 := inb_of (j := (7 : Int32)) S88 ⟨by decide, by decide⟩
      have at88 : cl88.slots[(7 : Int32).toNatClampNeg]? = some (.long (893 : Int64)) := H88.at in88 rfl
      refine Dn.by (U' := T67.setTop (mkF m 252 #[.val (.int p0), .val (.int p1), .val (.long q2), .second, .val (.ref b1), .val (.ref b35), .val (.int (7 : Int32)), .val (.long (880 : Int64)), .second, .unset, .unset, .unset, .unset, .unset, .unset] [(.long (893 : Int64))])) (X67.laload hx (j := (7 : Int32)) (v := (.long (893 : Int64))) (by rw [e67]; exact Ar88.1) (State.isArrayOf_alike hZ.alike Ar88.2.1) Ar88.2.2 in88 at88 (g := (mkF m 251 #[.val (.int p0), .val (.int p1), .val (.long q2), .second, .val (.ref b1), .val (.ref b35), .val (.int (7 : Int32)), .val (.long (880 : Int64)), .second, .unset, .unset, .unset, .unset, .unset, .unset] [(.int (7 : Int32)), (.ref b35)])) rfl rfl (hb hby at_251)) ?_
      refine Dn.by (U' := T67.setTop (mkF m 254 #[.val (.int p0), .val (.int p1), .val (.long q2), .second, .val (.ref b1), .val (.ref b35), .val (.int (7 : Int32)), .val (.long (880 : Int64)), .second, .val (.long (893 : Int64)), .second, .unset, .unset, .unset, .unset] [])) (fun _ ks => XS.lstore X67.here hx rfl (hb hby at_252) rfl (l' := #[.val (.int p0), .val (.int p1), .val (.long q2), .second, .val (.ref b1), .val (.ref b35), .val (.int (7 : Int32)), .val (.long (880 : Int64)), .second, .val (.long (893 : Int64)), .second, .unset, .unset, .unset, .unset]) rfl ks) ?_
      refine Dn.by (U' := T67.setTop (mkF m 255 #[.val (.int p0), .val (.int p1), .val (.long q2), .second, .val (.ref b1), .val (.ref b35), .val (.int (7 : Int32)), .val (.long (880 : Int64)), .second, .val (.long (893 : Int64)), .second, .unset, .unset, .unset, .unset] [(.int (1 : Int32))])) (fun _ ks => XS.iconst X67.here hx rfl (hb hby at_254)  ks) ?_
      refine Dn.by (U' := T67.setTop (mkF m 257 #[.val (.int p0), .val (.int p1), .val (.long q2), .second, .val (.ref b1), .val (.ref b35), .val (.int (7 : Int32)), .val (.long (880 : Int64)), .second, .val (.long (893 : Int64)), .second, .val (.int (1 : Int32)), .unset, .unset, .unset] [])) (fun _ ks => XS.istore X67.here hx rfl (hb hby at_255) rfl (l' := #[.val (.int p0), .val (.int p1), .val (.long q2), .second, .val (.ref b1), .val (.ref b35), .val (.int (7 : Int32)), .val (.long (880 : Int64)), .second, .val (.long (893 : Int64)), .second, .val (.int (1 : Int32)), .unset, .unset, .unset]) rfl ks) ?_
      refine Dn.by (U' := T67.setTop (mkF m 333 #[.val (.int p0), .val (.int p1), .val (.long q2), .second, .val (.ref b1), .val (.ref b35), .val (.int (7 : Int32)), .val (.long (880 : Int64)), .second, .val (.long (893 : Int64)), .second, .val (.int (1 : Int32)), .unset, .unset, .unset] [])) (fun _ ks => XS.goto X67.here hx rfl (pc0 := 257) (pc' := 333) rfl (hb hby at_257) (by decide) (by decide) ks) ?_
      exact J _ _ _ (own_R1 _ _ (880) (893) (by decide) (by decide) (by decide) (by decide) (by decide) (fun c q1 q2 => by unfold inS; omega))
    ·
      refine Dn.by (U' := T67.setTop (mkF m 242 #[.val (.int p0), .val (.int p1), .val (.long q2), .second, .val (.ref b1), .val (.ref b35), .val (.int (8 : Int32)), .unset, .unset, .unset, .unset, .unset, .unset, .unset, .unset] [(.ref b1)])) (fun _ ks => XS.aload X67.here hx rfl (hb hby at_240) rfl rfl ks) ?_
      refine Dn.by (U' := T67.setTop (mkF m 244 #[.val (.int p0), .val (.int p1), .val (.long q2), .second, .val (.ref b1), .val (.ref b35), .val (.int (8 : Int32)), .unset, .unset, .unset, .unset, .unset, .unset, .unset, .unset] [(.int (8 : Int32)), (.ref b1)])) (fun _ ks => XS.iload X67.here hx rfl (hb hby at_242) rfl ks) ?_
      obtain ⟨cl89, Ar89, q89, S89, M89, H89, G89⟩ := id (((((((((((((((((V33b.ext E35).other W37 ne_b1_b35).other W39 ne_b1_b35).other W41 ne_b1_b35).other W43 ne_b1_b35).other W45 ne_b1_b35).other W47 ne_b1_b35).other W49 ne_b1_b35).other W51 ne_b1_b35).other W53 ne_b1_b35).other W55 ne_b1_b35).other W57 ne_b1_b35).other W59 ne_b1_b35).other W61 ne_b1_b35).other W63 ne_b1_b35).other W65 ne_b1_b35).other W67 ne_b1_b35)
      have in89 := inb_of (j := (8 : Int32)) S89 ⟨by decide, by decide⟩
      have at89 : cl89.slots[(8 : Int32).toNatClampNeg]? = some (.long (895 : Int64)) := H89.at in89 rfl
      refine Dn.by (U' := T67.setTop (mkF m 245 #[.val (.int p0), .val (.int p1), .val (.long q2), .second, .val (.ref b1), .val (.ref b35), .val (.int (8 : Int32)), .unset, .unset, .unset, .unset, .unset, .unset, .unset, .unset] [(.long (895 : Int64))])) (X67.laload hx (j := (8 : Int32)) (v := (.long (895 : Int64))) (by rw [e67]; exact Ar89.1) (State.isArrayOf_alike hZ.alike Ar89.2.1) Ar89.2.2 in89 at89 (g := (mkF m 244 #[.val (.int p0), .val (.int p1), .val (.long q2), .second, .val (.ref b1), .val (.ref b35), .val (.int (8 : Int32)), .unset, .unset, .unset, .unset, .unset, .unset, .unset, .unset] [(.int (8 : Int32)), (.ref b1)])) rfl rfl (hb hby at_244)) ?_
      refine Dn.by (U' := T67.setTop (mkF m 247 #[.val (.int p0), .val (.int p1), .val (.long q2), .second, .val (.ref b1), .val (.ref b35), .val (.int (8 : Int32)), .val (.long (895 : Int64)), .second, .unset, .unset, .unset, .unset, .unset, .unset] [])) (fun _ ks => XS.lstore X67.here hx rfl (hb hby at_245) rfl (l' := #[.val (.int p0), .val (.int p1), .val (.long q2), .second, .val (.ref b1), .val (.ref b35), .val (.int (8 : Int32)), .val (.long (895 : Int64)), .second, .unset, .unset, .unset, .unset, .unset, .unset]) rfl ks) ?_
      refine Dn.by (U' := T67.setTop (mkF m 249 #[.val (.int p0), .val (.int p1), .val (.long q2), .second, .val (.ref b1), .val (.ref b35), .val (.int (8 : Int32)), .val (.long (895 : Int64)), .second, .unset, .unset, .unset, .unset, .unset, .unset] [(.ref b35)])) (fun _ ks => XS.aload X67.here hx rfl (hb hby at_247) rfl rfl ks) ?_
      refine Dn.by (U' := T67.setTop (mkF m 251 #[.val (.int p0), .val (.int p1), .val (.long q2), .second, .val (.ref b1), .val (.ref b35), .val (.int (8 : Int32)), .val (.long (895 : Int64)), .second, .unset, .unset, .unset, .unset, .unset, .unset] [(.int (8 : Int32)), (.ref b35)])) (fun _ ks => XS.iload X67.here hx rfl (hb hby at_249) rfl ks) ?_
      obtain ⟨cl90, Ar90, q90, S90, M90, H90, G90⟩ := id V67b
      have in90 := inb_of (j := (8 : Int32)) S90 ⟨by decide, by decide⟩
      have at90 : cl90.slots[(8 : Int32).toNatClampNeg]? = some (.long (8191 : Int64)) := H90.at in90 rfl
      refine Dn.by (U' := T67.setTop (mkF m 252 #[.val (.int p0), .val (.int p1), .val (.long q2), .second, .val (.ref b1), .val (.ref b35), .val (.int (8 : Int32)), .val (.long (895 : Int64)), .second, .unset, .unset, .unset, .unset, .unset, .unset] [(.long (8191 : Int64))])) (X67.laload hx (j := (8 : Int32)) (v := (.long (8191 : Int64))) (by rw [e67]; exact Ar90.1) (State.isArrayOf_alike hZ.alike Ar90.2.1) Ar90.2.2 in90 at90 (g := (mkF m 251 #[.val (.int p0), .val (.int p1), .val (.long q2), .second, .val (.ref b1), .val (.ref b35), .val (.int (8 : Int32)), .val (.long (895 : Int64)), .second, .unset, .unset, .unset, .unset, .unset, .unset] [(.int (8 : Int32)), (.ref b35)])) rfl rfl (hb hby at_251)) ?_
      refine Dn.by (U' := T67.setTop (mkF m 254 #[.val (.int p0), .val (.int p1), .val (.long q2), .second, .val (.ref b1), .val (.ref b35), .val (.int (8 : Int32)), .val (.long (895 : Int64)), .second, .val (.long (8191 : Int64)), .second, .unset, .unset, .unset, .unset] [])) (fun _ ks => XS.lstore X67.here hx rfl (hb hby at_252) rfl (l' := #[.val (.int p0), .val (.int p1), .val (.long q2), .second, .val (.ref b1), .val (.ref b35), .val (.int (8 : Int32)), .val (.long (895 : Int64)), .second, .val (.long (8191 : Int64)), .second, .unset, .unset, .unset, .unset]) rfl ks) ?_
      refine Dn.by (U' := T67.setTop (mkF m 255 #[.val (.int p0), .val (.int p1), .val (.long q2), .second, .val (.ref b1), .val (.ref b35), .val (.int (8 : Int32)), .val (.long (895 : Int64)), .second, .val (.long (8191 : Int64)), .second, .unset, .unset, .unset, .unset] [(.int (1 : Int32))])) (fun _ ks => XS.iconst X67.here hx rfl (hb hby at_254)  ks) ?_
      refine Dn.by (U' := T67.setTop (mkF m 257 #[.val (.int p0), .val (.int p1), .val (.long q2), .second, .val (.ref b1), .val (.ref b35), .val (.int (8 : Int32)), .val (.long (895 : Int64)), .second, .val (.long (8191 : Int64)), .second, .val (.int (1 : Int32)), .unset, .unset, .unset] [])) (fun _ ks => XS.istore X67.here hx rfl (hb hby at_255) rfl (l' := #[.val (.int p0), .val (.int p1), .val (.long q2), .second, .val (.ref b1), .val (.ref b35), .val (.int (8 : Int32)), .val (.long (895 : Int64)), .second, .val (.long (8191 : Int64)), .second, .val (.int (1 : Int32)), .unset, .unset, .unset]) rfl ks) ?_
      refine Dn.by (U' := T67.setTop (mkF m 333 #[.val (.int p0), .val (.int p1), .val (.long q2), .second, .val (.ref b1), .val (.ref b35), .val (.int (8 : Int32)), .val (.long (895 : Int64)), .second, .val (.long (8191 : Int64)), .second, .val (.int (1 : Int32)), .unset, .unset, .unset] [])) (fun _ ks => XS.goto X67.here hx rfl (pc0 := 257) (pc' := 333) rfl (hb hby at_257) (by decide) (by decide) ks) ?_
      exact J _ _ _ (own_R1 _ _ (895) (8191) (by decide) (by decide) (by decide) (by decide) (by decide) (fun c q1 q2 => by unfold inS; omega))
    ·
      refine Dn.by (U' := T67.setTop (mkF m 242 #[.val (.int p0), .val (.int p1), .val (.long q2), .second, .val (.ref b1), .val (.ref b35), .val (.int (9 : Int32)), .unset, .unset, .unset, .unset, .unset, .unset, .unset, .unset] [(.ref b1)])) (fun _ ks => XS.aload X67.here hx rfl (hb hby at_240) rfl rfl ks) ?_
      refine Dn.by (U' := T67.setTop (mkF m 244 #[.val (.int p0), .val (.int p1), .val (.long q2), .second, .val (.ref b1), .val (.ref b35), .val (.int (9 : Int32)), .unset, .unset, .unset, .unset, .unset, .unset, .unset, .unset] [(.int (9 : Int32)), (.ref b1)])) (fun _ ks => XS.iload X67.here hx rfl (hb hby at_242) rfl ks) ?_
      obtain ⟨cl91, Ar91, q91, S91, M91, H91, G91⟩ := id (((((((((((((((((V33b.ext E35).other W37 ne_b1_b35).other W39 ne_b1_b35).other W41 ne_b1_b35).other W43 ne_b1_b35).other W45 ne_b1_b35).other W47 ne_b1_b35).other W49 ne_b1_b35).other W51 ne_b1_b35).other W53 ne_b1_b35).other W55 ne_b1_b35).other W57 ne_b1_b35).other W59 ne_b1_b35).other W61 ne_b1_b35).other W63 ne_b1_b35).other W65 ne_b1_b35).other W67 ne_b1_b35)
      have in91 := inb_of (j := (9 : Int32)) S91 ⟨by decide, by decide⟩
      have at91 : cl91.slots[(9 : Int32).toNatClampNeg]? = some (.long (8204 : Int64)) := H91.at in91 rfl
      refine Dn.by (U' := T67.setTop (mkF m 245 #[.val (.int p0), .val (.int p1), .val (.long q2), .second, .val (.ref b1), .val (.ref b35), .val (.int (9 : Int32)), .unset, .unset, .unset, .unset, .unset, .unset, .unset, .unset] [(.long (8204 : Int64))])) (X67.laload hx (j := (9 : Int32)) (v := (.long (8204 : Int64))) (by rw [e67]; exact Ar91.1) (State.isArrayOf_alike hZ.alike Ar91.2.1) Ar91.2.2 in91 at91 (g := (mkF m 244 #[.val (.int p0), .val (.int p1), .val (.long q2), .second, .val (.ref b1), .val (.ref b35), .val (.int (9 : Int32)), .unset, .unset, .unset, .unset, .unset, .unset, .unset, .unset] [(.int (9 : Int32)), (.ref b1)])) rfl rfl (hb hby at_244)) ?_
      refine Dn.by (U' := T67.setTop (mkF m 247 #[.val (.int p0), .val (.int p1), .val (.long q2), .second, .val (.ref b1), .val (.ref b35), .val (.int (9 : Int32)), .val (.long (8204 : Int64)), .second, .unset, .unset, .unset, .unset, .unset, .unset] [])) (fun _ ks => XS.lstore X67.here hx rfl (hb hby at_245) rfl (l' := #[.val (.int p0), .val (.int p1), .val (.long q2), .second, .val (.ref b1), .val (.ref b35), .val (.int (9 : Int32)), .val (.long (8204 : Int64)), .second, .unset, .unset, .unset, .unset, .unset, .unset]) rfl ks) ?_
      refine Dn.by (U' := T67.setTop (mkF m 249 #[.val (.int p0), .val (.int p1), .val (.long q2), .second, .val (.ref b1), .val (.ref b35), .val (.int (9 : Int32)), .val (.long (8204 : Int64)), .second, .unset, .unset, .unset, .unset, .unset, .unset] [(.ref b35)])) (fun _ ks => XS.aload X67.here hx rfl (hb hby at_247) rfl rfl ks) ?_
      refine Dn.by (U' := T67.setTop (mkF m 251 #[.val (.int p0), .val (.int p1), .val (.long q2), .second, .val (.ref b1), .val (.ref b35), .val (.int (9 : Int32)), .val (.long (8204 : Int64)), .second, .unset, .unset, .unset, .unset, .unset, .unset] [(.int (9 : Int32)), (.ref b35)])) (fun _ ks => XS.iload X67.here hx rfl (hb hby at_249) rfl ks) ?_
      obtain ⟨cl92, Ar92, q92, S92, M92, H92, G92⟩ := id V67b
      have in92 := inb_of (j := (9 : Int32)) S92 ⟨by decide, by decide⟩
      have at92 : cl92.slots[(9 : Int32).toNatClampNeg]? = some (.long (8205 : Int64)) := H92.at in92 rfl
      refine Dn.by (U' := T67.setTop (mkF m 252 #[.val (.int p0), .val (.int p1), .val (.long q2), .second, .val (.ref b1), .val (.ref b35), .val (.int (9 : Int32)), .val (.long (8204 : Int64)), .second, .unset, .unset, .unset, .unset, .unset, .unset] [(.long (8205 : Int64))])) (X67.laload hx (j := (9 : Int32)) (v := (.long (8205 : Int64))) (by rw [e67]; exact Ar92.1) (State.isArrayOf_alike hZ.alike Ar92.2.1) Ar92.2.2 in92 at92 (g := (mkF m 251 #[.val (.int p0), .val (.int p1), .val (.long q2), .second, .val (.ref b1), .val (.ref b35), .val (.int (9 : Int32)), .val (.long (8204 : Int64)), .second, .unset, .unset, .unset, .unset, .unset, .unset] [(.int (9 : Int32)), (.ref b35)])) rfl rfl (hb hby at_251)) ?_
      refine Dn.by (U' := T67.setTop (mkF m 254 #[.val (.int p0), .val (.int p1), .val (.long q2), .second, .val (.ref b1), .val (.ref b35), .val (.int (9 : Int32)), .val (.long (8204 : Int64)), .second, .val (.long (8205 : Int64)), .second, .unset, .unset, .unset, .unset] [])) (fun _ ks => XS.lstore X67.here hx rfl (hb hby at_252) rfl (l' := #[.val (.int p0), .val (.int p1), .val (.long q2), .second, .val (.ref b1), .val (.ref b35), .val (.int (9 : Int32)), .val (.long (8204 : Int64)), .second, .val (.long (8205 : Int64)), .second, .unset, .unset, .unset, .unset]) rfl ks) ?_
      refine Dn.by (U' := T67.setTop (mkF m 255 #[.val (.int p0), .val (.int p1), .val (.long q2), .second, .val (.ref b1), .val (.ref b35), .val (.int (9 : Int32)), .val (.long (8204 : Int64)), .second, .val (.long (8205 : Int64)), .second, .unset, .unset, .unset, .unset] [(.int (1 : Int32))])) (fun _ ks => XS.iconst X67.here hx rfl (hb hby at_254)  ks) ?_
      refine Dn.by (U' := T67.setTop (mkF m 257 #[.val (.int p0), .val (.int p1), .val (.long q2), .second, .val (.ref b1), .val (.ref b35), .val (.int (9 : Int32)), .val (.long (8204 : Int64)), .second, .val (.long (8205 : Int64)), .second, .val (.int (1 : Int32)), .unset, .unset, .unset] [])) (fun _ ks => XS.istore X67.here hx rfl (hb hby at_255) rfl (l' := #[.val (.int p0), .val (.int p1), .val (.long q2), .second, .val (.ref b1), .val (.ref b35), .val (.int (9 : Int32)), .val (.long (8204 : Int64)), .second, .val (.long (8205 : Int64)), .second, .val (.int (1 : Int32)), .unset, .unset, .unset]) rfl ks) ?_
      refine Dn.by (U' := T67.setTop (mkF m 333 #[.val (.int p0), .val (.int p1), .val (.long q2), .second, .val (.ref b1), .val (.ref b35), .val (.int (9 : Int32)), .val (.long (8204 : Int64)), .second, .val (.long (8205 : Int64)), .second, .val (.int (1 : Int32)), .unset, .unset, .unset] [])) (fun _ ks => XS.goto X67.here hx rfl (pc0 := 257) (pc' := 333) rfl (hb hby at_257) (by decide) (by decide) ks) ?_
      exact J _ _ _ (own_R1 _ _ (8204) (8205) (by decide) (by decide) (by decide) (by decide) (by decide) (fun c q1 q2 => by unfold inS; omega))
    ·
      refine Dn.by (U' := T67.setTop (mkF m 242 #[.val (.int p0), .val (.int p1), .val (.long q2), .second, .val (.ref b1), .val (.ref b35), .val (.int (10 : Int32)), .unset, .unset, .unset, .unset, .unset, .unset, .unset, .unset] [(.ref b1)])) (fun _ ks => XS.aload X67.here hx rfl (hb hby at_240) rfl rfl ks) ?_
      refine Dn.by (U' := T67.setTop (mkF m 244 #[.val (.int p0), .val (.int p1), .val (.long q2), .second, .val (.ref b1), .val (.ref b35), .val (.int (10 : Int32)), .unset, .unset, .unset, .unset, .unset, .unset, .unset, .unset] [(.int (10 : Int32)), (.ref b1)])) (fun _ ks => XS.iload X67.here hx rfl (hb hby at_242) rfl ks) ?_
      obtain ⟨cl93, Ar93, q93, S93, M93, H93, G93⟩ := id (((((((((((((((((V33b.ext E35).other W37 ne_b1_b35).other W39 ne_b1_b35).other W41 ne_b1_b35).other W43 ne_b1_b35).other W45 ne_b1_b35).other W47 ne_b1_b35).other W49 ne_b1_b35).other W51 ne_b1_b35).other W53 ne_b1_b35).other W55 ne_b1_b35).other W57 ne_b1_b35).other W59 ne_b1_b35).other W61 ne_b1_b35).other W63 ne_b1_b35).other W65 ne_b1_b35).other W67 ne_b1_b35)
      have in93 := inb_of (j := (10 : Int32)) S93 ⟨by decide, by decide⟩
      have at93 : cl93.slots[(10 : Int32).toNatClampNeg]? = some (.long (8304 : Int64)) := H93.at in93 rfl
      refine Dn.by (U' := T67.setTop (mkF m 245 #[.val (.int p0), .val (.int p1), .val (.long q2), .second, .val (.ref b1), .val (.ref b35), .val (.int (10 : Int32)), .unset, .unset, .unset, .unset, .unset, .unset, .unset, .unset] [(.long (8304 : Int64))])) (X67.laload hx (j := (10 : Int32)) (v := (.long (8304 : Int64))) (by rw [e67]; exact Ar93.1) (State.isArrayOf_alike hZ.alike Ar93.2.1) Ar93.2.2 in93 at93 (g := (mkF m 244 #[.val (.int p0), .val (.int p1), .val (.long q2), .second, .val (.ref b1), .val (.ref b35), .val (.int (10 : Int32)), .unset, .unset, .unset, .unset, .unset, .unset, .unset, .unset] [(.int (10 : Int32)), (.ref b1)])) rfl rfl (hb hby at_244)) ?_
      refine Dn.by (U' := T67.setTop (mkF m 247 #[.val (.int p0), .val (.int p1), .val (.long q2), .second, .val (.ref b1), .val (.ref b35), .val (.int (10 : Int32)), .val (.long (8304 : Int64)), .second, .unset, .unset, .unset, .unset, .unset, .unset] [])) (fun _ ks => XS.lstore X67.here hx rfl (hb hby at_245) rfl (l' := #[.val (.int p0), .val (.int p1), .val (.long q2), .second, .val (.ref b1), .val (.ref b35), .val (.int (10 : Int32)), .val (.long (8304 : Int64)), .second, .unset, .unset, .unset, .unset, .unset, .unset]) rfl ks) ?_
      refine Dn.by (U' := T67.setTop (mkF m 249 #[.val (.int p0), .val (.int p1), .val (.long q2), .second, .val (.ref b1), .val (.ref b35), .val (.int (10 : Int32)), .val (.long (8304 : Int64)), .second, .unset, .unset, .unset, .unset, .unset, .unset] [(.ref b35)])) (fun _ ks => XS.aload X67.here hx rfl (hb hby at_247) rfl rfl ks) ?_
      refine Dn.by (U' := T67.setTop (mkF m 251 #[.val (.int p0), .val (.int p1), .val (.long q2), .second, .val (.ref b1), .val (.ref b35), .val (.int (10 : Int32)), .val (.long (8304 : Int64)), .second, .unset, .unset, .unset, .unset, .unset, .unset] [(.int (10 : Int32)), (.ref b35)])) (fun _ ks => XS.iload X67.here hx rfl (hb hby at_249) rfl ks) ?_
      obtain ⟨cl94, Ar94, q94, S94, M94, H94, G94⟩ := id V67b
      have in94 := inb_of (j := (10 : Int32)) S94 ⟨by decide, by decide⟩
      have at94 : cl94.slots[(10 : Int32).toNatClampNeg]? = some (.long (8591 : Int64)) := H94.at in94 rfl
      refine Dn.by (U' := T67.setTop (mkF m 252 #[.val (.int p0), .val (.int p1), .val (.long q2), .second, .val (.ref b1), .val (.ref b35), .val (.int (10 : Int32)), .val (.long (8304 : Int64)), .second, .unset, .unset, .unset, .unset, .unset, .unset] [(.long (8591 : Int64))])) (X67.laload hx (j := (10 : Int32)) (v := (.long (8591 : Int64))) (by rw [e67]; exact Ar94.1) (State.isArrayOf_alike hZ.alike Ar94.2.1) Ar94.2.2 in94 at94 (g := (mkF m 251 #[.val (.int p0), .val (.int p1), .val (.long q2), .second, .val (.ref b1), .val (.ref b35), .val (.int (10 : Int32)), .val (.long (8304 : Int64)), .second, .unset, .unset, .unset, .unset, .unset, .unset] [(.int (10 : Int32)), (.ref b35)])) rfl rfl (hb hby at_251)) ?_
      refine Dn.by (U' := T67.setTop (mkF m 254 #[.val (.int p0), .val (.int p1), .val (.long q2), .second, .val (.ref b1), .val (.ref b35), .val (.int (10 : Int32)), .val (.long (8304 : Int64)), .second, .val (.long (8591 : Int64)), .second, .unset, .unset, .unset, .unset] [])) (fun _ ks => XS.lstore X67.here hx rfl (hb hby at_252) rfl (l' := #[.val (.int p0), .val (.int p1), .val (.long q2), .second, .val (.ref b1), .val (.ref b35), .val (.int (10 : Int32)), .val (.long (8304 : Int64)), .second, .val (.long (8591 : Int64)), .second, .unset, .unset, .unset, .unset]) rfl ks) ?_
      refine Dn.by (U' := T67.setTop (mkF m 255 #[.val (.int p0), .val (.int p1), .val (.long q2), .second, .val (.ref b1), .val (.ref b35), .val (.int (10 : Int32)), .val (.long (8304 : Int64)), .second, .val (.long (8591 : Int64)), .second, .unset, .unset, .unset, .unset] [(.int (1 : Int32))])) (fun _ ks => XS.iconst X67.here hx rfl (hb hby at_254)  ks) ?_
      refine Dn.by (U' := T67.setTop (mkF m 257 #[.val (.int p0), .val (.int p1), .val (.long q2), .second, .val (.ref b1), .val (.ref b35), .val (.int (10 : Int32)), .val (.long (8304 : Int64)), .second, .val (.long (8591 : Int64)), .second, .val (.int (1 : Int32)), .unset, .unset, .unset] [])) (fun _ ks => XS.istore X67.here hx rfl (hb hby at_255) rfl (l' := #[.val (.int p0), .val (.int p1), .val (.long q2), .second, .val (.ref b1), .val (.ref b35), .val (.int (10 : Int32)), .val (.long (8304 : Int64)), .second, .val (.long (8591 : Int64)), .second, .val (.int (1 : Int32)), .unset, .unset, .unset]) rfl ks) ?_
      refine Dn.by (U' := T67.setTop (mkF m 333 #[.val (.int p0), .val (.int p1), .val (.long q2), .second, .val (.ref b1), .val (.ref b35), .val (.int (10 : Int32)), .val (.long (8304 : Int64)), .second, .val (.long (8591 : Int64)), .second, .val (.int (1 : Int32)), .unset, .unset, .unset] [])) (fun _ ks => XS.goto X67.here hx rfl (pc0 := 257) (pc' := 333) rfl (hb hby at_257) (by decide) (by decide) ks) ?_
      exact J _ _ _ (own_R1 _ _ (8304) (8591) (by decide) (by decide) (by decide) (by decide) (by decide) (fun c q1 q2 => by unfold inS; omega))
    ·
      refine Dn.by (U' := T67.setTop (mkF m 242 #[.val (.int p0), .val (.int p1), .val (.long q2), .second, .val (.ref b1), .val (.ref b35), .val (.int (11 : Int32)), .unset, .unset, .unset, .unset, .unset, .unset, .unset, .unset] [(.ref b1)])) (fun _ ks => XS.aload X67.here hx rfl (hb hby at_240) rfl rfl ks) ?_
      refine Dn.by (U' := T67.setTop (mkF m 244 #[.val (.int p0), .val (.int p1), .val (.long q2), .second, .val (.ref b1), .val (.ref b35), .val (.int (11 : Int32)), .unset, .unset, .unset, .unset, .unset, .unset, .unset, .unset] [(.int (11 : Int32)), (.ref b1)])) (fun _ ks => XS.iload X67.here hx rfl (hb hby at_242) rfl ks) ?_
      obtain ⟨cl95, Ar95, q95, S95, M95, H95, G95⟩ := id (((((((((((((((((V33b.ext E35).other W37 ne_b1_b35).other W39 ne_b1_b35).other W41 ne_b1_b35).other W43 ne_b1_b35).other W45 ne_b1_b35).other W47 ne_b1_b35).other W49 ne_b1_b35).other W51 ne_b1_b35).other W53 ne_b1_b35).other W55 ne_b1_b35).other W57 ne_b1_b35).other W59 ne_b1_b35).other W61 ne_b1_b35).other W63 ne_b1_b35).other W65 ne_b1_b35).other W67 ne_b1_b35)
      have in95 := inb_of (j := (11 : Int32)) S95 ⟨by decide, by decide⟩
      have at95 : cl95.slots[(11 : Int32).toNatClampNeg]? = some (.long (11264 : Int64)) := H95.at in95 rfl
      refine Dn.by (U' := T67.setTop (mkF m 245 #[.val (.int p0), .val (.int p1), .val (.long q2), .second, .val (.ref b1), .val (.ref b35), .val (.int (11 : Int32)), .unset, .unset, .unset, .unset, .unset, .unset, .unset, .unset] [(.long (11264 : Int64))])) (X67.laload hx (j := (11 : Int32)) (v := (.long (11264 : Int64))) (by rw [e67]; exact Ar95.1) (State.isArrayOf_alike hZ.alike Ar95.2.1) Ar95.2.2 in95 at95 (g := (mkF m 244 #[.val (.int p0), .val (.int p1), .val (.long q2), .second, .val (.ref b1), .val (.ref b35), .val (.int (11 : Int32)), .unset, .unset, .unset, .unset, .unset, .unset, .unset, .unset] [(.int (11 : Int32)), (.ref b1)])) rfl rfl (hb hby at_244)) ?_
      refine Dn.by (U' := T67.setTop (mkF m 247 #[.val (.int p0), .val (.int p1), .val (.long q2), .second, .val (.ref b1), .val (.ref b35), .val (.int (11 : Int32)), .val (.long (11264 : Int64)), .second, .unset, .unset, .unset, .unset, .unset, .unset] [])) (fun _ ks => XS.lstore X67.here hx rfl (hb hby at_245) rfl (l' := #[.val (.int p0), .val (.int p1), .val (.long q2), .second, .val (.ref b1), .val (.ref b35), .val (.int (11 : Int32)), .val (.long (11264 : Int64)), .second, .unset, .unset, .unset, .unset, .unset, .unset]) rfl ks) ?_
      refine Dn.by (U' := T67.setTop (mkF m 249 #[.val (.int p0), .val (.int p1), .val (.long q2), .second, .val (.ref b1), .val (.ref b35), .val (.int (11 : Int32)), .val (.long (11264 : Int64)), .second, .unset, .unset, .unset, .unset, .unset, .unset] [(.ref b35)])) (fun _ ks => XS.aload X67.here hx rfl (hb hby at_247) rfl rfl ks) ?_
      refine Dn.by (U' := T67.setTop (mkF m 251 #[.val (.int p0), .val (.int p1), .val (.long q2), .second, .val (.ref b1), .val (.ref b35), .val (.int (11 : Int32)), .val (.long (11264 : Int64)), .second, .unset, .unset, .unset, .unset, .unset, .unset] [(.int (11 : Int32)), (.ref b35)])) (fun _ ks => XS.iload X67.here hx rfl (hb hby at_249) rfl ks) ?_
      obtain ⟨cl96, Ar96, q96, S96, M96, H96, G96⟩ := id V67b
      have in96 := inb_of (j := (11 : Int32)) S96 ⟨by decide, by decide⟩
      have at96 : cl96.slots[(11 : Int32).toNatClampNeg]? = some (.long (12271 : Int64)) := H96.at in96 rfl
      refine Dn.by (U' := T67.setTop (mkF m 252 #[.val (.int p0), .val (.int p1), .val (.long q2), .second, .val (.ref b1), .val (.ref b35), .val (.int (11 : Int32)), .val (.long (11264 : Int64)), .second, .unset, .unset, .unset, .unset, .unset, .unset] [(.long (12271 : Int64))])) (X67.laload hx (j := (11 : Int32)) (v := (.long (12271 : Int64))) (by rw [e67]; exact Ar96.1) (State.isArrayOf_alike hZ.alike Ar96.2.1) Ar96.2.2 in96 at96 (g := (mkF m 251 #[.val (.int p0), .val (.int p1), .val (.long q2), .second, .val (.ref b1), .val (.ref b35), .val (.int (11 : Int32)), .val (.long (11264 : Int64)), .second, .unset, .unset, .unset, .unset, .unset, .unset] [(.int (11 : Int32)), (.ref b35)])) rfl rfl (hb hby at_251)) ?_
      refine Dn.by (U' := T67.setTop (mkF m 254 #[.val (.int p0), .val (.int p1), .val (.long q2), .second, .val (.ref b1), .val (.ref b35), .val (.int (11 : Int32)), .val (.long (11264 : Int64)), .second, .val (.long (12271 : Int64)), .second, .unset, .unset, .unset, .unset] [])) (fun _ ks => XS.lstore X67.here hx rfl (hb hby at_252) rfl (l' := #[.val (.int p0), .val (.int p1), .val (.long q2), .second, .val (.ref b1), .val (.ref b35), .val (.int (11 : Int32)), .val (.long (11264 : Int64)), .second, .val (.long (12271 : Int64)), .second, .unset, .unset, .unset, .unset]) rfl ks) ?_
      refine Dn.by (U' := T67.setTop (mkF m 255 #[.val (.int p0), .val (.int p1), .val (.long q2), .second, .val (.ref b1), .val (.ref b35), .val (.int (11 : Int32)), .val (.long (11264 : Int64)), .second, .val (.long (12271 : Int64)), .second, .unset, .unset, .unset, .unset] [(.int (1 : Int32))])) (fun _ ks => XS.iconst X67.here hx rfl (hb hby at_254)  ks) ?_
      refine Dn.by (U' := T67.setTop (mkF m 257 #[.val (.int p0), .val (.int p1), .val (.long q2), .second, .val (.ref b1), .val (.ref b35), .val (.int (11 : Int32)), .val (.long (11264 : Int64)), .second, .val (.long (12271 : Int64)), .second, .val (.int (1 : Int32)), .unset, .unset, .unset] [])) (fun _ ks => XS.istore X67.here hx rfl (hb hby at_255) rfl (l' := #[.val (.int p0), .val (.int p1), .val (.long q2), .second, .val (.ref b1), .val (.ref b35), .val (.int (11 : Int32)), .val (.long (11264 : Int64)), .second, .val (.long (12271 : Int64)), .second, .val (.int (1 : Int32)), .unset, .unset, .unset]) rfl ks) ?_
      refine Dn.by (U' := T67.setTop (mkF m 333 #[.val (.int p0), .val (.int p1), .val (.long q2), .second, .val (.ref b1), .val (.ref b35), .val (.int (11 : Int32)), .val (.long (11264 : Int64)), .second, .val (.long (12271 : Int64)), .second, .val (.int (1 : Int32)), .unset, .unset, .unset] [])) (fun _ ks => XS.goto X67.here hx rfl (pc0 := 257) (pc' := 333) rfl (hb hby at_257) (by decide) (by decide) ks) ?_
      exact J _ _ _ (own_R1 _ _ (11264) (12271) (by decide) (by decide) (by decide) (by decide) (by decide) (fun c q1 q2 => by unfold inS; omega))
    ·
      refine Dn.by (U' := T67.setTop (mkF m 242 #[.val (.int p0), .val (.int p1), .val (.long q2), .second, .val (.ref b1), .val (.ref b35), .val (.int (12 : Int32)), .unset, .unset, .unset, .unset, .unset, .unset, .unset, .unset] [(.ref b1)])) (fun _ ks => XS.aload X67.here hx rfl (hb hby at_240) rfl rfl ks) ?_
      refine Dn.by (U' := T67.setTop (mkF m 244 #[.val (.int p0), .val (.int p1), .val (.long q2), .second, .val (.ref b1), .val (.ref b35), .val (.int (12 : Int32)), .unset, .unset, .unset, .unset, .unset, .unset, .unset, .unset] [(.int (12 : Int32)), (.ref b1)])) (fun _ ks => XS.iload X67.here hx rfl (hb hby at_242) rfl ks) ?_
      obtain ⟨cl97, Ar97, q97, S97, M97, H97, G97⟩ := id (((((((((((((((((V33b.ext E35).other W37 ne_b1_b35).other W39 ne_b1_b35).other W41 ne_b1_b35).other W43 ne_b1_b35).other W45 ne_b1_b35).other W47 ne_b1_b35).other W49 ne_b1_b35).other W51 ne_b1_b35).other W53 ne_b1_b35).other W55 ne_b1_b35).other W57 ne_b1_b35).other W59 ne_b1_b35).other W61 ne_b1_b35).other W63 ne_b1_b35).other W65 ne_b1_b35).other W67 ne_b1_b35)
      have in97 := inb_of (j := (12 : Int32)) S97 ⟨by decide, by decide⟩
      have at97 : cl97.slots[(12 : Int32).toNatClampNeg]? = some (.long (12289 : Int64)) := H97.at in97 rfl
      refine Dn.by (U' := T67.setTop (mkF m 245 #[.val (.int p0), .val (.int p1), .val (.long q2), .second, .val (.ref b1), .val (.ref b35), .val (.int (12 : Int32)), .unset, .unset, .unset, .unset, .unset, .unset, .unset, .unset] [(.long (12289 : Int64))])) (X67.laload hx (j := (12 : Int32)) (v := (.long (12289 : Int64))) (by rw [e67]; exact Ar97.1) (State.isArrayOf_alike hZ.alike Ar97.2.1) Ar97.2.2 in97 at97 (g := (mkF m 244 #[.val (.int p0), .val (.int p1), .val (.long q2), .second, .val (.ref b1), .val (.ref b35), .val (.int (12 : Int32)), .unset, .unset, .unset, .unset, .unset, .unset, .unset, .unset] [(.int (12 : Int32)), (.ref b1)])) rfl rfl (hb hby at_244)) ?_
      refine Dn.by (U' := T67.setTop (mkF m 247 #[.val (.int p0), .val (.int p1), .val (.long q2), .second, .val (.ref b1), .val (.ref b35), .val (.int (12 : Int32)), .val (.long (12289 : Int64)), .second, .unset, .unset, .unset, .unset, .unset, .unset] [])) (fun _ ks => XS.lstore X67.here hx rfl (hb hby at_245) rfl (l' := #[.val (.int p0), .val (.int p1), .val (.long q2), .second, .val (.ref b1), .val (.ref b35), .val (.int (12 : Int32)), .val (.long (12289 : Int64)), .second, .unset, .unset, .unset, .unset, .unset, .unset]) rfl ks) ?_
      refine Dn.by (U' := T67.setTop (mkF m 249 #[.val (.int p0), .val (.int p1), .val (.long q2), .second, .val (.ref b1), .val (.ref b35), .val (.int (12 : Int32)), .val (.long (12289 : Int64)), .second, .unset, .unset, .unset, .unset, .unset, .unset] [(.ref b35)])) (fun _ ks => XS.aload X67.here hx rfl (hb hby at_247) rfl rfl ks) ?_
      refine Dn.by (U' := T67.setTop (mkF m 251 #[.val (.int p0), .val (.int p1), .val (.long q2), .second, .val (.ref b1), .val (.ref b35), .val (.int (12 : Int32)), .val (.long (12289 : Int64)), .second, .unset, .unset, .unset, .unset, .unset, .unset] [(.int (12 : Int32)), (.ref b35)])) (fun _ ks => XS.iload X67.here hx rfl (hb hby at_249) rfl ks) ?_
      obtain ⟨cl98, Ar98, q98, S98, M98, H98, G98⟩ := id V67b
      have in98 := inb_of (j := (12 : Int32)) S98 ⟨by decide, by decide⟩
      have at98 : cl98.slots[(12 : Int32).toNatClampNeg]? = some (.long (55295 : Int64)) := H98.at in98 rfl
      refine Dn.by (U' := T67.setTop (mkF m 252 #[.val (.int p0), .val (.int p1), .val (.long q2), .second, .val (.ref b1), .val (.ref b35), .val (.int (12 : Int32)), .val (.long (12289 : Int64)), .second, .unset, .unset, .unset, .unset, .unset, .unset] [(.long (55295 : Int64))])) (X67.laload hx (j := (12 : Int32)) (v := (.long (55295 : Int64))) (by rw [e67]; exact Ar98.1) (State.isArrayOf_alike hZ.alike Ar98.2.1) Ar98.2.2 in98 at98 (g := (mkF m 251 #[.val (.int p0), .val (.int p1), .val (.long q2), .second, .val (.ref b1), .val (.ref b35), .val (.int (12 : Int32)), .val (.long (12289 : Int64)), .second, .unset, .unset, .unset, .unset, .unset, .unset] [(.int (12 : Int32)), (.ref b35)])) rfl rfl (hb hby at_251)) ?_
      refine Dn.by (U' := T67.setTop (mkF m 254 #[.val (.int p0), .val (.int p1), .val (.long q2), .second, .val (.ref b1), .val (.ref b35), .val (.int (12 : Int32)), .val (.long (12289 : Int64)), .second, .val (.long (55295 : Int64)), .second, .unset, .unset, .unset, .unset] [])) (fun _ ks => XS.lstore X67.here hx rfl (hb hby at_252) rfl (l' := #[.val (.int p0), .val (.int p1), .val (.long q2), .second, .val (.ref b1), .val (.ref b35), .val (.int (12 : Int32)), .val (.long (12289 : Int64)), .second, .val (.long (55295 : Int64)), .second, .unset, .unset, .unset, .unset]) rfl ks) ?_
      refine Dn.by (U' := T67.setTop (mkF m 255 #[.val (.int p0), .val (.int p1), .val (.long q2), .second, .val (.ref b1), .val (.ref b35), .val (.int (12 : Int32)), .val (.long (12289 : Int64)), .second, .val (.long (55295 : Int64)), .second, .unset, .unset, .unset, .unset] [(.int (1 : Int32))])) (fun _ ks => XS.iconst X67.here hx rfl (hb hby at_254)  ks) ?_
      refine Dn.by (U' := T67.setTop (mkF m 257 #[.val (.int p0), .val (.int p1), .val (.long q2), .second, .val (.ref b1), .val (.ref b35), .val (.int (12 : Int32)), .val (.long (12289 : Int64)), .second, .val (.long (55295 : Int64)), .second, .val (.int (1 : Int32)), .unset, .unset, .unset] [])) (fun _ ks => XS.istore X67.here hx rfl (hb hby at_255) rfl (l' := #[.val (.int p0), .val (.int p1), .val (.long q2), .second, .val (.ref b1), .val (.ref b35), .val (.int (12 : Int32)), .val (.long (12289 : Int64)), .second, .val (.long (55295 : Int64)), .second, .val (.int (1 : Int32)), .unset, .unset, .unset]) rfl ks) ?_
      refine Dn.by (U' := T67.setTop (mkF m 333 #[.val (.int p0), .val (.int p1), .val (.long q2), .second, .val (.ref b1), .val (.ref b35), .val (.int (12 : Int32)), .val (.long (12289 : Int64)), .second, .val (.long (55295 : Int64)), .second, .val (.int (1 : Int32)), .unset, .unset, .unset] [])) (fun _ ks => XS.goto X67.here hx rfl (pc0 := 257) (pc' := 333) rfl (hb hby at_257) (by decide) (by decide) ks) ?_
      exact J _ _ _ (own_R1 _ _ (12289) (55295) (by decide) (by decide) (by decide) (by decide) (by decide) (fun c q1 q2 => by unfold inS; omega))
    ·
      refine Dn.by (U' := T67.setTop (mkF m 242 #[.val (.int p0), .val (.int p1), .val (.long q2), .second, .val (.ref b1), .val (.ref b35), .val (.int (13 : Int32)), .unset, .unset, .unset, .unset, .unset, .unset, .unset, .unset] [(.ref b1)])) (fun _ ks => XS.aload X67.here hx rfl (hb hby at_240) rfl rfl ks) ?_
      refine Dn.by (U' := T67.setTop (mkF m 244 #[.val (.int p0), .val (.int p1), .val (.long q2), .second, .val (.ref b1), .val (.ref b35), .val (.int (13 : Int32)), .unset, .unset, .unset, .unset, .unset, .unset, .unset, .unset] [(.int (13 : Int32)), (.ref b1)])) (fun _ ks => XS.iload X67.here hx rfl (hb hby at_242) rfl ks) ?_
      obtain ⟨cl99, Ar99, q99, S99, M99, H99, G99⟩ := id (((((((((((((((((V33b.ext E35).other W37 ne_b1_b35).other W39 ne_b1_b35).other W41 ne_b1_b35).other W43 ne_b1_b35).other W45 ne_b1_b35).other W47 ne_b1_b35).other W49 ne_b1_b35).other W51 ne_b1_b35).other W53 ne_b1_b35).other W55 ne_b1_b35).other W57 ne_b1_b35).other W59 ne_b1_b35).other W61 ne_b1_b35).other W63 ne_b1_b35).other W65 ne_b1_b35).other W67 ne_b1_b35)
      have in99 := inb_of (j := (13 : Int32)) S99 ⟨by decide, by decide⟩
      have at99 : cl99.slots[(13 : Int32).toNatClampNeg]? = some (.long (63744 : Int64)) := H99.at in99 rfl
      refine Dn.by (U' := T67.setTop (mkF m 245 #[.val (.int p0), .val (.int p1), .val (.long q2), .second, .val (.ref b1), .val (.ref b35), .val (.int (13 : Int32)), .unset, .unset, .unset, .unset, .unset, .unset, .unset, .unset] [(.long (63744 : Int64))])) (X67.laload hx (j := (13 : Int32)) (v := (.long (63744 : Int64))) (by rw [e67]; exact Ar99.1) (State.isArrayOf_alike hZ.alike Ar99.2.1) Ar99.2.2 in99 at99 (g := (mkF m 244 #[.val (.int p0), .val (.int p1), .val (.long q2), .second, .val (.ref b1), .val (.ref b35), .val (.int (13 : Int32)), .unset, .unset, .unset, .unset, .unset, .unset, .unset, .unset] [(.int (13 : Int32)), (.ref b1)])) rfl rfl (hb hby at_244)) ?_
      refine Dn.by (U' := T67.setTop (mkF m 247 #[.val (.int p0), .val (.int p1), .val (.long q2), .second, .val (.ref b1), .val (.ref b35), .val (.int (13 : Int32)), .val (.long (63744 : Int64)), .second, .unset, .unset, .unset, .unset, .unset, .unset] [])) (fun _ ks => XS.lstore X67.here hx rfl (hb hby at_245) rfl (l' := #[.val (.int p0), .val (.int p1), .val (.long q2), .second, .val (.ref b1), .val (.ref b35), .val (.int (13 : Int32)), .val (.long (63744 : Int64)), .second, .unset, .unset, .unset, .unset, .unset, .unset]) rfl ks) ?_
      refine Dn.by (U' := T67.setTop (mkF m 249 #[.val (.int p0), .val (.int p1), .val (.long q2), .second, .val (.ref b1), .val (.ref b35), .val (.int (13 : Int32)), .val (.long (63744 : Int64)), .second, .unset, .unset, .unset, .unset, .unset, .unset] [(.ref b35)])) (fun _ ks => XS.aload X67.here hx rfl (hb hby at_247) rfl rfl ks) ?_
      refine Dn.by (U' := T67.setTop (mkF m 251 #[.val (.int p0), .val (.int p1), .val (.long q2), .second, .val (.ref b1), .val (.ref b35), .val (.int (13 : Int32)), .val (.long (63744 : Int64)), .second, .unset, .unset, .unset, .unset, .unset, .unset] [(.int (13 : Int32)), (.ref b35)])) (fun _ ks => XS.iload X67.here hx rfl (hb hby at_249) rfl ks) ?_
      obtain ⟨cl100, Ar100, q100, S100, M100, H100, G100⟩ := id V67b
      have in100 := inb_of (j := (13 : Int32)) S100 ⟨by decide, by decide⟩
      have at100 : cl100.slots[(13 : Int32).toNatClampNeg]? = some (.long (64975 : Int64)) := H100.at in100 rfl
      refine Dn.by (U' := T67.setTop (mkF m 252 #[.val (.int p0), .val (.int p1), .val (.long q2), .second, .val (.ref b1), .val (.ref b35), .val (.int (13 : Int32)), .val (.long (63744 : Int64)), .second, .unset, .unset, .unset, .unset, .unset, .unset] [(.long (64975 : Int64))])) (X67.laload hx (j := (13 : Int32)) (v := (.long (64975 : Int64))) (by rw [e67]; exact Ar100.1) (State.isArrayOf_alike hZ.alike Ar100.2.1) Ar100.2.2 in100 at100 (g := (mkF m 251 #[.val (.int p0), .val (.int p1), .val (.long q2), .second, .val (.ref b1), .val (.ref b35), .val (.int (13 : Int32)), .val (.long (63744 : Int64)), .second, .unset, .unset, .unset, .unset, .unset, .unset] [(.int (13 : Int32)), (.ref b35)])) rfl rfl (hb hby at_251)) ?_
      refine Dn.by (U' := T67.setTop (mkF m 254 #[.val (.int p0), .val (.int p1), .val (.long q2), .second, .val (.ref b1), .val (.ref b35), .val (.int (13 : Int32)), .val (.long (63744 : Int64)), .second, .val (.long (64975 : Int64)), .second, .unset, .unset, .unset, .unset] [])) (fun _ ks => XS.lstore X67.here hx rfl (hb hby at_252) rfl (l' := #[.val (.int p0), .val (.int p1), .val (.long q2), .second, .val (.ref b1), .val (.ref b35), .val (.int (13 : Int32)), .val (.long (63744 : Int64)), .second, .val (.long (64975 : Int64)), .second, .unset, .unset, .unset, .unset]) rfl ks) ?_
      refine Dn.by (U' := T67.setTop (mkF m 255 #[.val (.int p0), .val (.int p1), .val (.long q2), .second, .val (.ref b1), .val (.ref b35), .val (.int (13 : Int32)), .val (.long (63744 : Int64)), .second, .val (.long (64975 : Int64)), .second, .unset, .unset, .unset, .unset] [(.int (1 : Int32))])) (fun _ ks => XS.iconst X67.here hx rfl (hb hby at_254)  ks) ?_
      refine Dn.by (U' := T67.setTop (mkF m 257 #[.val (.int p0), .val (.int p1), .val (.long q2), .second, .val (.ref b1), .val (.ref b35), .val (.int (13 : Int32)), .val (.long (63744 : Int64)), .second, .val (.long (64975 : Int64)), .second, .val (.int (1 : Int32)), .unset, .unset, .unset] [])) (fun _ ks => XS.istore X67.here hx rfl (hb hby at_255) rfl (l' := #[.val (.int p0), .val (.int p1), .val (.long q2), .second, .val (.ref b1), .val (.ref b35), .val (.int (13 : Int32)), .val (.long (63744 : Int64)), .second, .val (.long (64975 : Int64)), .second, .val (.int (1 : Int32)), .unset, .unset, .unset]) rfl ks) ?_
      refine Dn.by (U' := T67.setTop (mkF m 333 #[.val (.int p0), .val (.int p1), .val (.long q2), .second, .val (.ref b1), .val (.ref b35), .val (.int (13 : Int32)), .val (.long (63744 : Int64)), .second, .val (.long (64975 : Int64)), .second, .val (.int (1 : Int32)), .unset, .unset, .unset] [])) (fun _ ks => XS.goto X67.here hx rfl (pc0 := 257) (pc' := 333) rfl (hb hby at_257) (by decide) (by decide) ks) ?_
      exact J _ _ _ (own_R1 _ _ (63744) (64975) (by decide) (by decide) (by decide) (by decide) (by decide) (fun c q1 q2 => by unfold inS; omega))
    ·
      refine Dn.by (U' := T67.setTop (mkF m 242 #[.val (.int p0), .val (.int p1), .val (.long q2), .second, .val (.ref b1), .val (.ref b35), .val (.int (14 : Int32)), .unset, .unset, .unset, .unset, .unset, .unset, .unset, .unset] [(.ref b1)])) (fun _ ks => XS.aload X67.here hx rfl (hb hby at_240) rfl rfl ks) ?_
      refine Dn.by (U' := T67.setTop (mkF m 244 #[.val (.int p0), .val (.int p1), .val (.long q2), .second, .val (.ref b1), .val (.ref b35), .val (.int (14 : Int32)), .unset, .unset, .unset, .unset, .unset, .unset, .unset, .unset] [(.int (14 : Int32)), (.ref b1)])) (fun _ ks => XS.iload X67.here hx rfl (hb hby at_242) rfl ks) ?_
      obtain ⟨cl101, Ar101, q101, S101, M101, H101, G101⟩ := id (((((((((((((((((V33b.ext E35).other W37 ne_b1_b35).other W39 ne_b1_b35).other W41 ne_b1_b35).other W43 ne_b1_b35).other W45 ne_b1_b35).other W47 ne_b1_b35).other W49 ne_b1_b35).other W51 ne_b1_b35).other W53 ne_b1_b35).other W55 ne_b1_b35).other W57 ne_b1_b35).other W59 ne_b1_b35).other W61 ne_b1_b35).other W63 ne_b1_b35).other W65 ne_b1_b35).other W67 ne_b1_b35)
      have in101 := inb_of (j := (14 : Int32)) S101 ⟨by decide, by decide⟩
      have at101 : cl101.slots[(14 : Int32).toNatClampNeg]? = some (.long (65008 : Int64)) := H101.at in101 rfl
      refine Dn.by (U' := T67.setTop (mkF m 245 #[.val (.int p0), .val (.int p1), .val (.long q2), .second, .val (.ref b1), .val (.ref b35), .val (.int (14 : Int32)), .unset, .unset, .unset, .unset, .unset, .unset, .unset, .unset] [(.long (65008 : Int64))])) (X67.laload hx (j := (14 : Int32)) (v := (.long (65008 : Int64))) (by rw [e67]; exact Ar101.1) (State.isArrayOf_alike hZ.alike Ar101.2.1) Ar101.2.2 in101 at101 (g := (mkF m 244 #[.val (.int p0), .val (.int p1), .val (.long q2), .second, .val (.ref b1), .val (.ref b35), .val (.int (14 : Int32)), .unset, .unset, .unset, .unset, .unset, .unset, .unset, .unset] [(.int (14 : Int32)), (.ref b1)])) rfl rfl (hb hby at_244)) ?_
      refine Dn.by (U' := T67.setTop (mkF m 247 #[.val (.int p0), .val (.int p1), .val (.long q2), .second, .val (.ref b1), .val (.ref b35), .val (.int (14 : Int32)), .val (.long (65008 : Int64)), .second, .unset, .unset, .unset, .unset, .unset, .unset] [])) (fun _ ks => XS.lstore X67.here hx rfl (hb hby at_245) rfl (l' := #[.val (.int p0), .val (.int p1), .val (.long q2), .second, .val (.ref b1), .val (.ref b35), .val (.int (14 : Int32)), .val (.long (65008 : Int64)), .second, .unset, .unset, .unset, .unset, .unset, .unset]) rfl ks) ?_
      refine Dn.by (U' := T67.setTop (mkF m 249 #[.val (.int p0), .val (.int p1), .val (.long q2), .second, .val (.ref b1), .val (.ref b35), .val (.int (14 : Int32)), .val (.long (65008 : Int64)), .second, .unset, .unset, .unset, .unset, .unset, .unset] [(.ref b35)])) (fun _ ks => XS.aload X67.here hx rfl (hb hby at_247) rfl rfl ks) ?_
      refine Dn.by (U' := T67.setTop (mkF m 251 #[.val (.int p0), .val (.int p1), .val (.long q2), .second, .val (.ref b1), .val (.ref b35), .val (.int (14 : Int32)), .val (.long (65008 : Int64)), .second, .unset, .unset, .unset, .unset, .unset, .unset] [(.int (14 : Int32)), (.ref b35)])) (fun _ ks => XS.iload X67.here hx rfl (hb hby at_249) rfl ks) ?_
      obtain ⟨cl102, Ar102, q102, S102, M102, H102, G102⟩ := id V67b
      have in102 := inb_of (j := (14 : Int32)) S102 ⟨by decide, by decide⟩
      have at102 : cl102.slots[(14 : Int32).toNatClampNeg]? = some (.long (65533 : Int64)) := H102.at in102 rfl
      refine Dn.by (U' := T67.setTop (mkF m 252 #[.val (.int p0), .val (.int p1), .val (.long q2), .second, .val (.ref b1), .val (.ref b35), .val (.int (14 : Int32)), .val (.long (65008 : Int64)), .second, .unset, .unset, .unset, .unset, .unset, .unset] [(.long (65533 : Int64))])) (X67.laload hx (j := (14 : Int32)) (v := (.long (65533 : Int64))) (by rw [e67]; exact Ar102.1) (State.isArrayOf_alike hZ.alike Ar102.2.1) Ar102.2.2 in102 at102 (g := (mkF m 251 #[.val (.int p0), .val (.int p1), .val (.long q2), .second, .val (.ref b1), .val (.ref b35), .val (.int (14 : Int32)), .val (.long (65008 : Int64)), .second, .unset, .unset, .unset, .unset, .unset, .unset] [(.int (14 : Int32)), (.ref b35)])) rfl rfl (hb hby at_251)) ?_
      refine Dn.by (U' := T67.setTop (mkF m 254 #[.val (.int p0), .val (.int p1), .val (.long q2), .second, .val (.ref b1), .val (.ref b35), .val (.int (14 : Int32)), .val (.long (65008 : Int64)), .second, .val (.long (65533 : Int64)), .second, .unset, .unset, .unset, .unset] [])) (fun _ ks => XS.lstore X67.here hx rfl (hb hby at_252) rfl (l' := #[.val (.int p0), .val (.int p1), .val (.long q2), .second, .val (.ref b1), .val (.ref b35), .val (.int (14 : Int32)), .val (.long (65008 : Int64)), .second, .val (.long (65533 : Int64)), .second, .unset, .unset, .unset, .unset]) rfl ks) ?_
      refine Dn.by (U' := T67.setTop (mkF m 255 #[.val (.int p0), .val (.int p1), .val (.long q2), .second, .val (.ref b1), .val (.ref b35), .val (.int (14 : Int32)), .val (.long (65008 : Int64)), .second, .val (.long (65533 : Int64)), .second, .unset, .unset, .unset, .unset] [(.int (1 : Int32))])) (fun _ ks => XS.iconst X67.here hx rfl (hb hby at_254)  ks) ?_
      refine Dn.by (U' := T67.setTop (mkF m 257 #[.val (.int p0), .val (.int p1), .val (.long q2), .second, .val (.ref b1), .val (.ref b35), .val (.int (14 : Int32)), .val (.long (65008 : Int64)), .second, .val (.long (65533 : Int64)), .second, .val (.int (1 : Int32)), .unset, .unset, .unset] [])) (fun _ ks => XS.istore X67.here hx rfl (hb hby at_255) rfl (l' := #[.val (.int p0), .val (.int p1), .val (.long q2), .second, .val (.ref b1), .val (.ref b35), .val (.int (14 : Int32)), .val (.long (65008 : Int64)), .second, .val (.long (65533 : Int64)), .second, .val (.int (1 : Int32)), .unset, .unset, .unset]) rfl ks) ?_
      refine Dn.by (U' := T67.setTop (mkF m 333 #[.val (.int p0), .val (.int p1), .val (.long q2), .second, .val (.ref b1), .val (.ref b35), .val (.int (14 : Int32)), .val (.long (65008 : Int64)), .second, .val (.long (65533 : Int64)), .second, .val (.int (1 : Int32)), .unset, .unset, .unset] [])) (fun _ ks => XS.goto X67.here hx rfl (pc0 := 257) (pc' := 333) rfl (hb hby at_257) (by decide) (by decide) ks) ?_
      exact J _ _ _ (own_R1 _ _ (65008) (65533) (by decide) (by decide) (by decide) (by decide) (by decide) (fun c q1 q2 => by unfold inS; omega))
    ·
      refine Dn.by (U' := T67.setTop (mkF m 242 #[.val (.int p0), .val (.int p1), .val (.long q2), .second, .val (.ref b1), .val (.ref b35), .val (.int (15 : Int32)), .unset, .unset, .unset, .unset, .unset, .unset, .unset, .unset] [(.ref b1)])) (fun _ ks => XS.aload X67.here hx rfl (hb hby at_240) rfl rfl ks) ?_
      refine Dn.by (U' := T67.setTop (mkF m 244 #[.val (.int p0), .val (.int p1), .val (.long q2), .second, .val (.ref b1), .val (.ref b35), .val (.int (15 : Int32)), .unset, .unset, .unset, .unset, .unset, .unset, .unset, .unset] [(.int (15 : Int32)), (.ref b1)])) (fun _ ks => XS.iload X67.here hx rfl (hb hby at_242) rfl ks) ?_
      obtain ⟨cl103, Ar103, q103, S103, M103, H103, G103⟩ := id (((((((((((((((((V33b.ext E35).other W37 ne_b1_b35).other W39 ne_b1_b35).other W41 ne_b1_b35).other W43 ne_b1_b35).other W45 ne_b1_b35).other W47 ne_b1_b35).other W49 ne_b1_b35).other W51 ne_b1_b35).other W53 ne_b1_b35).other W55 ne_b1_b35).other W57 ne_b1_b35).other W59 ne_b1_b35).other W61 ne_b1_b35).other W63 ne_b1_b35).other W65 ne_b1_b35).other W67 ne_b1_b35)
      have in103 := inb_of (j := (15 : Int32)) S103 ⟨by decide, by decide⟩
      have at103 : cl103.slots[(15 : Int32).toNatClampNeg]? = some (.long (65536 : Int64)) := H103.at in103 rfl
      refine Dn.by (U' := T67.setTop (mkF m 245 #[.val (.int p0), .val (.int p1), .val (.long q2), .second, .val (.ref b1), .val (.ref b35), .val (.int (15 : Int32)), .unset, .unset, .unset, .unset, .unset, .unset, .unset, .unset] [(.long (65536 : Int64))])) (X67.laload hx (j := (15 : Int32)) (v := (.long (65536 : Int64))) (by rw [e67]; exact Ar103.1) (State.isArrayOf_alike hZ.alike Ar103.2.1) Ar103.2.2 in103 at103 (g := (mkF m 244 #[.val (.int p0), .val (.int p1), .val (.long q2), .second, .val (.ref b1), .val (.ref b35), .val (.int (15 : Int32)), .unset, .unset, .unset, .unset, .unset, .unset, .unset, .unset] [(.int (15 : Int32)), (.ref b1)])) rfl rfl (hb hby at_244)) ?_
      refine Dn.by (U' := T67.setTop (mkF m 247 #[.val (.int p0), .val (.int p1), .val (.long q2), .second, .val (.ref b1), .val (.ref b35), .val (.int (15 : Int32)), .val (.long (65536 : Int64)), .second, .unset, .unset, .unset, .unset, .unset, .unset] [])) (fun _ ks => XS.lstore X67.here hx rfl (hb hby at_245) rfl (l' := #[.val (.int p0), .val (.int p1), .val (.long q2), .second, .val (.ref b1), .val (.ref b35), .val (.int (15 : Int32)), .val (.long (65536 : Int64)), .second, .unset, .unset, .unset, .unset, .unset, .unset]) rfl ks) ?_
      refine Dn.by (U' := T67.setTop (mkF m 249 #[.val (.int p0), .val (.int p1), .val (.long q2), .second, .val (.ref b1), .val (.ref b35), .val (.int (15 : Int32)), .val (.long (65536 : Int64)), .second, .unset, .unset, .unset, .unset, .unset, .unset] [(.ref b35)])) (fun _ ks => XS.aload X67.here hx rfl (hb hby at_247) rfl rfl ks) ?_
      refine Dn.by (U' := T67.setTop (mkF m 251 #[.val (.int p0), .val (.int p1), .val (.long q2), .second, .val (.ref b1), .val (.ref b35), .val (.int (15 : Int32)), .val (.long (65536 : Int64)), .second, .unset, .unset, .unset, .unset, .unset, .unset] [(.int (15 : Int32)), (.ref b35)])) (fun _ ks => XS.iload X67.here hx rfl (hb hby at_249) rfl ks) ?_
      obtain ⟨cl104, Ar104, q104, S104, M104, H104, G104⟩ := id V67b
      have in104 := inb_of (j := (15 : Int32)) S104 ⟨by decide, by decide⟩
      have at104 : cl104.slots[(15 : Int32).toNatClampNeg]? = some (.long (983039 : Int64)) := H104.at in104 rfl
      refine Dn.by (U' := T67.setTop (mkF m 252 #[.val (.int p0), .val (.int p1), .val (.long q2), .second, .val (.ref b1), .val (.ref b35), .val (.int (15 : Int32)), .val (.long (65536 : Int64)), .second, .unset, .unset, .unset, .unset, .unset, .unset] [(.long (983039 : Int64))])) (X67.laload hx (j := (15 : Int32)) (v := (.long (983039 : Int64))) (by rw [e67]; exact Ar104.1) (State.isArrayOf_alike hZ.alike Ar104.2.1) Ar104.2.2 in104 at104 (g := (mkF m 251 #[.val (.int p0), .val (.int p1), .val (.long q2), .second, .val (.ref b1), .val (.ref b35), .val (.int (15 : Int32)), .val (.long (65536 : Int64)), .second, .unset, .unset, .unset, .unset, .unset, .unset] [(.int (15 : Int32)), (.ref b35)])) rfl rfl (hb hby at_251)) ?_
      refine Dn.by (U' := T67.setTop (mkF m 254 #[.val (.int p0), .val (.int p1), .val (.long q2), .second, .val (.ref b1), .val (.ref b35), .val (.int (15 : Int32)), .val (.long (65536 : Int64)), .second, .val (.long (983039 : Int64)), .second, .unset, .unset, .unset, .unset] [])) (fun _ ks => XS.lstore X67.here hx rfl (hb hby at_252) rfl (l' := #[.val (.int p0), .val (.int p1), .val (.long q2), .second, .val (.ref b1), .val (.ref b35), .val (.int (15 : Int32)), .val (.long (65536 : Int64)), .second, .val (.long (983039 : Int64)), .second, .unset, .unset, .unset, .unset]) rfl ks) ?_
      refine Dn.by (U' := T67.setTop (mkF m 255 #[.val (.int p0), .val (.int p1), .val (.long q2), .second, .val (.ref b1), .val (.ref b35), .val (.int (15 : Int32)), .val (.long (65536 : Int64)), .second, .val (.long (983039 : Int64)), .second, .unset, .unset, .unset, .unset] [(.int (1 : Int32))])) (fun _ ks => XS.iconst X67.here hx rfl (hb hby at_254)  ks) ?_
      refine Dn.by (U' := T67.setTop (mkF m 257 #[.val (.int p0), .val (.int p1), .val (.long q2), .second, .val (.ref b1), .val (.ref b35), .val (.int (15 : Int32)), .val (.long (65536 : Int64)), .second, .val (.long (983039 : Int64)), .second, .val (.int (1 : Int32)), .unset, .unset, .unset] [])) (fun _ ks => XS.istore X67.here hx rfl (hb hby at_255) rfl (l' := #[.val (.int p0), .val (.int p1), .val (.long q2), .second, .val (.ref b1), .val (.ref b35), .val (.int (15 : Int32)), .val (.long (65536 : Int64)), .second, .val (.long (983039 : Int64)), .second, .val (.int (1 : Int32)), .unset, .unset, .unset]) rfl ks) ?_
      refine Dn.by (U' := T67.setTop (mkF m 333 #[.val (.int p0), .val (.int p1), .val (.long q2), .second, .val (.ref b1), .val (.ref b35), .val (.int (15 : Int32)), .val (.long (65536 : Int64)), .second, .val (.long (983039 : Int64)), .second, .val (.int (1 : Int32)), .unset, .unset, .unset] [])) (fun _ ks => XS.goto X67.here hx rfl (pc0 := 257) (pc' := 333) rfl (hb hby at_257) (by decide) (by decide) ks) ?_
      exact J _ _ _ (own_R1 _ _ (65536) (983039) (by decide) (by decide) (by decide) (by decide) (by decide) (fun c q1 q2 => by unfold inS; omega))
  ·
    refine Dn.by (U' := T67.setTop (mkF m 260 #[.val (.int p0), .val (.int p1), .val (.long q2), .second, .val (.ref b1), .val (.ref b35), .val (.int sg), .unset, .unset, .unset, .unset, .unset, .unset, .unset, .unset] [])) (fun _ ks => XS.icmpYes X67.here hx rfl (pc0 := 237) (pc' := 260) rfl (hb hby at_237) rfl (flt c237_72).2.1 (by decide) (by decide) ks) ?_
    refine Dn.by (U' := T67.setTop (mkF m 262 #[.val (.int p0), .val (.int p1), .val (.long q2), .second, .val (.ref b1), .val (.ref b35), .val (.int sg), .unset, .unset, .unset, .unset, .unset, .unset, .unset, .unset] [(.int sg)])) (fun _ ks => XS.iload X67.here hx rfl (hb hby at_260) rfl ks) ?_
    refine Dn.by (U' := T67.setTop (mkF m 264 #[.val (.int p0), .val (.int p1), .val (.long q2), .second, .val (.ref b1), .val (.ref b35), .val (.int sg), .unset, .unset, .unset, .unset, .unset, .unset, .unset, .unset] [(.int (31 : Int32)), (.int sg)])) (fun _ ks => XS.bipush X67.here hx rfl (hb hby at_262)  ks) ?_
    by_cases c264_105 : sg < (31 : Int32)
    ·
      refine Dn.by (U' := T67.setTop (mkF m 267 #[.val (.int p0), .val (.int p1), .val (.long q2), .second, .val (.ref b1), .val (.ref b35), .val (.int sg), .unset, .unset, .unset, .unset, .unset, .unset, .unset, .unset] [])) (fun _ ks => XS.icmpNo X67.here hx rfl (hb hby at_264) rfl (tlt c264_105).2.1 ks) ?_
      have hs2 := own_s2 sg ⟨Int.not_lt.mp (fun q => c237_72 (Int32.lt_iff_toInt_lt.mpr (by omega))), by have q := Int32.lt_iff_toInt_lt.mp c264_105; omega⟩
      rcases hs2 with rfl | rfl | rfl | rfl | rfl | rfl | rfl | rfl | rfl | rfl | rfl | rfl | rfl | rfl | rfl
      ·
        refine Dn.by (U' := T67.setTop (mkF m 269 #[.val (.int p0), .val (.int p1), .val (.long q2), .second, .val (.ref b1), .val (.ref b35), .val (.int (16 : Int32)), .unset, .unset, .unset, .unset, .unset, .unset, .unset, .unset] [(.ref b35)])) (fun _ ks => XS.aload X67.here hx rfl (hb hby at_267) rfl rfl ks) ?_
        refine Dn.by (U' := T67.setTop (mkF m 271 #[.val (.int p0), .val (.int p1), .val (.long q2), .second, .val (.ref b1), .val (.ref b35), .val (.int (16 : Int32)), .unset, .unset, .unset, .unset, .unset, .unset, .unset, .unset] [(.int (16 : Int32)), (.ref b35)])) (fun _ ks => XS.iload X67.here hx rfl (hb hby at_269) rfl ks) ?_
        refine Dn.by (U' := T67.setTop (mkF m 273 #[.val (.int p0), .val (.int p1), .val (.long q2), .second, .val (.ref b1), .val (.ref b35), .val (.int (16 : Int32)), .unset, .unset, .unset, .unset, .unset, .unset, .unset, .unset] [(.int (16 : Int32)), (.int (16 : Int32)), (.ref b35)])) (fun _ ks => XS.bipush X67.here hx rfl (hb hby at_271)  ks) ?_
        refine Dn.by (U' := T67.setTop (mkF m 274 #[.val (.int p0), .val (.int p1), .val (.long q2), .second, .val (.ref b1), .val (.ref b35), .val (.int (16 : Int32)), .unset, .unset, .unset, .unset, .unset, .unset, .unset, .unset] [(.int ((16 : Int32) - (16 : Int32))), (.ref b35)])) (fun _ ks => XS.isub X67.here hx rfl (hb hby at_273) rfl ks) ?_
        rw [show ((16 : Int32) - (16 : Int32)) = (0 : Int32) from by decide]
        obtain ⟨cl106, Ar106, q106, S106, M106, H106, G106⟩ := id V67b
        have in106 := inb_of (j := (0 : Int32)) S106 ⟨by decide, by decide⟩
        have at106 : cl106.slots[(0 : Int32).toNatClampNeg]? = some (.long (58 : Int64)) := H106.at in106 rfl
        refine Dn.by (U' := T67.setTop (mkF m 275 #[.val (.int p0), .val (.int p1), .val (.long q2), .second, .val (.ref b1), .val (.ref b35), .val (.int (16 : Int32)), .unset, .unset, .unset, .unset, .unset, .unset, .unset, .unset] [(.long (58 : Int64))])) (X67.laload hx (j := (0 : Int32)) (v := (.long (58 : Int64))) (by rw [e67]; exact Ar106.1) (State.isArrayOf_alike hZ.alike Ar106.2.1) Ar106.2.2 in106 at106 (g := (mkF m 274 #[.val (.int p0), .val (.int p1), .val (.long q2), .second, .val (.ref b1), .val (.ref b35), .val (.int (16 : Int32)), .unset, .unset, .unset, .unset, .unset, .unset, .unset, .unset] [(.int (0 : Int32)), (.ref b35)])) rfl rfl (hb hby at_274)) ?_
        refine Dn.by (U' := T67.setTop (mkF m 276 #[.val (.int p0), .val (.int p1), .val (.long q2), .second, .val (.ref b1), .val (.ref b35), .val (.int (16 : Int32)), .unset, .unset, .unset, .unset, .unset, .unset, .unset, .unset] [(.long (1 : Int64)), (.long (58 : Int64))])) (fun _ ks => XS.lconst X67.here hx rfl (hb hby at_275)  ks) ?_
        refine Dn.by (U' := T67.setTop (mkF m 277 #[.val (.int p0), .val (.int p1), .val (.long q2), .second, .val (.ref b1), .val (.ref b35), .val (.int (16 : Int32)), .unset, .unset, .unset, .unset, .unset, .unset, .unset, .unset] [(.long ((58 : Int64) + (1 : Int64)))])) (fun _ ks => XS.ladd X67.here hx rfl (hb hby at_276) rfl ks) ?_
        refine Dn.by (U' := T67.setTop (mkF m 279 #[.val (.int p0), .val (.int p1), .val (.long q2), .second, .val (.ref b1), .val (.ref b35), .val (.int (16 : Int32)), .val (.long ((58 : Int64) + (1 : Int64))), .second, .unset, .unset, .unset, .unset, .unset, .unset] [])) (fun _ ks => XS.lstore X67.here hx rfl (hb hby at_277) rfl (l' := #[.val (.int p0), .val (.int p1), .val (.long q2), .second, .val (.ref b1), .val (.ref b35), .val (.int (16 : Int32)), .val (.long ((58 : Int64) + (1 : Int64))), .second, .unset, .unset, .unset, .unset, .unset, .unset]) rfl ks) ?_
        refine Dn.by (U' := T67.setTop (mkF m 281 #[.val (.int p0), .val (.int p1), .val (.long q2), .second, .val (.ref b1), .val (.ref b35), .val (.int (16 : Int32)), .val (.long ((58 : Int64) + (1 : Int64))), .second, .unset, .unset, .unset, .unset, .unset, .unset] [(.ref b1)])) (fun _ ks => XS.aload X67.here hx rfl (hb hby at_279) rfl rfl ks) ?_
        refine Dn.by (U' := T67.setTop (mkF m 283 #[.val (.int p0), .val (.int p1), .val (.long q2), .second, .val (.ref b1), .val (.ref b35), .val (.int (16 : Int32)), .val (.long ((58 : Int64) + (1 : Int64))), .second, .unset, .unset, .unset, .unset, .unset, .unset] [(.int (16 : Int32)), (.ref b1)])) (fun _ ks => XS.iload X67.here hx rfl (hb hby at_281) rfl ks) ?_
        refine Dn.by (U' := T67.setTop (mkF m 285 #[.val (.int p0), .val (.int p1), .val (.long q2), .second, .val (.ref b1), .val (.ref b35), .val (.int (16 : Int32)), .val (.long ((58 : Int64) + (1 : Int64))), .second, .unset, .unset, .unset, .unset, .unset, .unset] [(.int (15 : Int32)), (.int (16 : Int32)), (.ref b1)])) (fun _ ks => XS.bipush X67.here hx rfl (hb hby at_283)  ks) ?_
        refine Dn.by (U' := T67.setTop (mkF m 286 #[.val (.int p0), .val (.int p1), .val (.long q2), .second, .val (.ref b1), .val (.ref b35), .val (.int (16 : Int32)), .val (.long ((58 : Int64) + (1 : Int64))), .second, .unset, .unset, .unset, .unset, .unset, .unset] [(.int ((16 : Int32) - (15 : Int32))), (.ref b1)])) (fun _ ks => XS.isub X67.here hx rfl (hb hby at_285) rfl ks) ?_
        rw [show ((16 : Int32) - (15 : Int32)) = (1 : Int32) from by decide]
        obtain ⟨cl107, Ar107, q107, S107, M107, H107, G107⟩ := id (((((((((((((((((V33b.ext E35).other W37 ne_b1_b35).other W39 ne_b1_b35).other W41 ne_b1_b35).other W43 ne_b1_b35).other W45 ne_b1_b35).other W47 ne_b1_b35).other W49 ne_b1_b35).other W51 ne_b1_b35).other W53 ne_b1_b35).other W55 ne_b1_b35).other W57 ne_b1_b35).other W59 ne_b1_b35).other W61 ne_b1_b35).other W63 ne_b1_b35).other W65 ne_b1_b35).other W67 ne_b1_b35)
        have in107 := inb_of (j := (1 : Int32)) S107 ⟨by decide, by decide⟩
        have at107 : cl107.slots[(1 : Int32).toNatClampNeg]? = some (.long (65 : Int64)) := H107.at in107 rfl
        refine Dn.by (U' := T67.setTop (mkF m 287 #[.val (.int p0), .val (.int p1), .val (.long q2), .second, .val (.ref b1), .val (.ref b35), .val (.int (16 : Int32)), .val (.long ((58 : Int64) + (1 : Int64))), .second, .unset, .unset, .unset, .unset, .unset, .unset] [(.long (65 : Int64))])) (X67.laload hx (j := (1 : Int32)) (v := (.long (65 : Int64))) (by rw [e67]; exact Ar107.1) (State.isArrayOf_alike hZ.alike Ar107.2.1) Ar107.2.2 in107 at107 (g := (mkF m 286 #[.val (.int p0), .val (.int p1), .val (.long q2), .second, .val (.ref b1), .val (.ref b35), .val (.int (16 : Int32)), .val (.long ((58 : Int64) + (1 : Int64))), .second, .unset, .unset, .unset, .unset, .unset, .unset] [(.int (1 : Int32)), (.ref b1)])) rfl rfl (hb hby at_286)) ?_
        refine Dn.by (U' := T67.setTop (mkF m 288 #[.val (.int p0), .val (.int p1), .val (.long q2), .second, .val (.ref b1), .val (.ref b35), .val (.int (16 : Int32)), .val (.long ((58 : Int64) + (1 : Int64))), .second, .unset, .unset, .unset, .unset, .unset, .unset] [(.long (1 : Int64)), (.long (65 : Int64))])) (fun _ ks => XS.lconst X67.here hx rfl (hb hby at_287)  ks) ?_
        refine Dn.by (U' := T67.setTop (mkF m 289 #[.val (.int p0), .val (.int p1), .val (.long q2), .second, .val (.ref b1), .val (.ref b35), .val (.int (16 : Int32)), .val (.long ((58 : Int64) + (1 : Int64))), .second, .unset, .unset, .unset, .unset, .unset, .unset] [(.long ((65 : Int64) - (1 : Int64)))])) (fun _ ks => XS.lsub X67.here hx rfl (hb hby at_288) rfl ks) ?_
        refine Dn.by (U' := T67.setTop (mkF m 291 #[.val (.int p0), .val (.int p1), .val (.long q2), .second, .val (.ref b1), .val (.ref b35), .val (.int (16 : Int32)), .val (.long ((58 : Int64) + (1 : Int64))), .second, .val (.long ((65 : Int64) - (1 : Int64))), .second, .unset, .unset, .unset, .unset] [])) (fun _ ks => XS.lstore X67.here hx rfl (hb hby at_289) rfl (l' := #[.val (.int p0), .val (.int p1), .val (.long q2), .second, .val (.ref b1), .val (.ref b35), .val (.int (16 : Int32)), .val (.long ((58 : Int64) + (1 : Int64))), .second, .val (.long ((65 : Int64) - (1 : Int64))), .second, .unset, .unset, .unset, .unset]) rfl ks) ?_
        refine Dn.by (U' := T67.setTop (mkF m 292 #[.val (.int p0), .val (.int p1), .val (.long q2), .second, .val (.ref b1), .val (.ref b35), .val (.int (16 : Int32)), .val (.long ((58 : Int64) + (1 : Int64))), .second, .val (.long ((65 : Int64) - (1 : Int64))), .second, .unset, .unset, .unset, .unset] [(.int (0 : Int32))])) (fun _ ks => XS.iconst X67.here hx rfl (hb hby at_291)  ks) ?_
        refine Dn.by (U' := T67.setTop (mkF m 294 #[.val (.int p0), .val (.int p1), .val (.long q2), .second, .val (.ref b1), .val (.ref b35), .val (.int (16 : Int32)), .val (.long ((58 : Int64) + (1 : Int64))), .second, .val (.long ((65 : Int64) - (1 : Int64))), .second, .val (.int (0 : Int32)), .unset, .unset, .unset] [])) (fun _ ks => XS.istore X67.here hx rfl (hb hby at_292) rfl (l' := #[.val (.int p0), .val (.int p1), .val (.long q2), .second, .val (.ref b1), .val (.ref b35), .val (.int (16 : Int32)), .val (.long ((58 : Int64) + (1 : Int64))), .second, .val (.long ((65 : Int64) - (1 : Int64))), .second, .val (.int (0 : Int32)), .unset, .unset, .unset]) rfl ks) ?_
        refine Dn.by (U' := T67.setTop (mkF m 333 #[.val (.int p0), .val (.int p1), .val (.long q2), .second, .val (.ref b1), .val (.ref b35), .val (.int (16 : Int32)), .val (.long ((58 : Int64) + (1 : Int64))), .second, .val (.long ((65 : Int64) - (1 : Int64))), .second, .val (.int (0 : Int32)), .unset, .unset, .unset] [])) (fun _ ks => XS.goto X67.here hx rfl (pc0 := 294) (pc' := 333) rfl (hb hby at_294) (by decide) (by decide) ks) ?_
        exact J _ _ _ (own_R0 _ _ (59) (64) (by decide) (by decide) (by decide) (by decide) (by decide) (fun c q1 q2 => by unfold inS; omega))
      ·
        refine Dn.by (U' := T67.setTop (mkF m 269 #[.val (.int p0), .val (.int p1), .val (.long q2), .second, .val (.ref b1), .val (.ref b35), .val (.int (17 : Int32)), .unset, .unset, .unset, .unset, .unset, .unset, .unset, .unset] [(.ref b35)])) (fun _ ks => XS.aload X67.here hx rfl (hb hby at_267) rfl rfl ks) ?_
        refine Dn.by (U' := T67.setTop (mkF m 271 #[.val (.int p0), .val (.int p1), .val (.long q2), .second, .val (.ref b1), .val (.ref b35), .val (.int (17 : Int32)), .unset, .unset, .unset, .unset, .unset, .unset, .unset, .unset] [(.int (17 : Int32)), (.ref b35)])) (fun _ ks => XS.iload X67.here hx rfl (hb hby at_269) rfl ks) ?_
        refine Dn.by (U' := T67.setTop (mkF m 273 #[.val (.int p0), .val (.int p1), .val (.long q2), .second, .val (.ref b1), .val (.ref b35), .val (.int (17 : Int32)), .unset, .unset, .unset, .unset, .unset, .unset, .unset, .unset] [(.int (16 : Int32)), (.int (17 : Int32)), (.ref b35)])) (fun _ ks => XS.bipush X67.here hx rfl (hb hby at_271)  ks) ?_
        refine Dn.by (U' := T67.setTop (mkF m 274 #[.val (.int p0), .val (.int p1), .val (.long q2), .second, .val (.ref b1), .val (.ref b35), .val (.int (17 : Int32)), .unset, .unset, .unset, .unset, .unset, .unset, .unset, .unset] [(.int ((17 : Int32) - (16 : Int32))), (.ref b35)])) (fun _ ks => XS.isub X67.here hx rfl (hb hby at_273) rfl ks) ?_
        rw [show ((17 : Int32) - (16 : Int32)) = (1 : Int32) from by decide]
        obtain ⟨cl108, Ar108, q108, S108, M108, H108, G108⟩ := id V67b
        have in108 := inb_of (j := (1 : Int32)) S108 ⟨by decide, by decide⟩
        have at108 : cl108.slots[(1 : Int32).toNatClampNeg]? = some (.long (90 : Int64)) := H108.at in108 rfl
        refine Dn.by (U' := T67.setTop (mkF m 275 #[.val (.int p0), .val (.int p1), .val (.long q2), .second, .val (.ref b1), .val (.ref b35), .val (.int (17 : Int32)), .unset, .unset, .unset, .unset, .unset, .unset, .unset, .unset] [(.long (90 : Int64))])) (X67.laload hx (j := (1 : Int32)) (v := (.long (90 : Int64))) (by rw [e67]; exact Ar108.1) (State.isArrayOf_alike hZ.alike Ar108.2.1) Ar108.2.2 in108 at108 (g := (mkF m 274 #[.val (.int p0), .val (.int p1), .val (.long q2), .second, .val (.ref b1), .val (.ref b35), .val (.int (17 : Int32)), .unset, .unset, .unset, .unset, .unset, .unset, .unset, .unset] [(.int (1 : Int32)), (.ref b35)])) rfl rfl (hb hby at_274)) ?_
        refine Dn.by (U' := T67.setTop (mkF m 276 #[.val (.int p0), .val (.int p1), .val (.long q2), .second, .val (.ref b1), .val (.ref b35), .val (.int (17 : Int32)), .unset, .unset, .unset, .unset, .unset, .unset, .unset, .unset] [(.long (1 : Int64)), (.long (90 : Int64))])) (fun _ ks => XS.lconst X67.here hx rfl (hb hby at_275)  ks) ?_
        refine Dn.by (U' := T67.setTop (mkF m 277 #[.val (.int p0), .val (.int p1), .val (.long q2), .second, .val (.ref b1), .val (.ref b35), .val (.int (17 : Int32)), .unset, .unset, .unset, .unset, .unset, .unset, .unset, .unset] [(.long ((90 : Int64) + (1 : Int64)))])) (fun _ ks => XS.ladd X67.here hx rfl (hb hby at_276) rfl ks) ?_
        refine Dn.by (U' := T67.setTop (mkF m 279 #[.val (.int p0), .val (.int p1), .val (.long q2), .second, .val (.ref b1), .val (.ref b35), .val (.int (17 : Int32)), .val (.long ((90 : Int64) + (1 : Int64))), .second, .unset, .unset, .unset, .unset, .unset, .unset] [])) (fun _ ks => XS.lstore X67.here hx rfl (hb hby at_277) rfl (l' := #[.val (.int p0), .val (.int p1), .val (.long q2), .second, .val (.ref b1), .val (.ref b35), .val (.int (17 : Int32)), .val (.long ((90 : Int64) + (1 : Int64))), .second, .unset, .unset, .unset, .unset, .unset, .unset]) rfl ks) ?_
        refine Dn.by (U' := T67.setTop (mkF m 281 #[.val (.int p0), .val (.int p1), .val (.long q2), .second, .val (.ref b1), .val (.ref b35), .val (.int (17 : Int32)), .val (.long ((90 : Int64) + (1 : Int64))), .second, .unset, .unset, .unset, .unset, .unset, .unset] [(.ref b1)])) (fun _ ks => XS.aload X67.here hx rfl (hb hby at_279) rfl rfl ks) ?_
        refine Dn.by (U' := T67.setTop (mkF m 283 #[.val (.int p0), .val (.int p1), .val (.long q2), .second, .val (.ref b1), .val (.ref b35), .val (.int (17 : Int32)), .val (.long ((90 : Int64) + (1 : Int64))), .second, .unset, .unset, .unset, .unset, .unset, .unset] [(.int (17 : Int32)), (.ref b1)])) (fun _ ks => XS.iload X67.here hx rfl (hb hby at_281) rfl ks) ?_
        refine Dn.by (U' := T67.setTop (mkF m 285 #[.val (.int p0), .val (.int p1), .val (.long q2), .second, .val (.ref b1), .val (.ref b35), .val (.int (17 : Int32)), .val (.long ((90 : Int64) + (1 : Int64))), .second, .unset, .unset, .unset, .unset, .unset, .unset] [(.int (15 : Int32)), (.int (17 : Int32)), (.ref b1)])) (fun _ ks => XS.bipush X67.here hx rfl (hb hby at_283)  ks) ?_
        refine Dn.by (U' := T67.setTop (mkF m 286 #[.val (.int p0), .val (.int p1), .val (.long q2), .second, .val (.ref b1), .val (.ref b35), .val (.int (17 : Int32)), .val (.long ((90 : Int64) + (1 : Int64))), .second, .unset, .unset, .unset, .unset, .unset, .unset] [(.int ((17 : Int32) - (15 : Int32))), (.ref b1)])) (fun _ ks => XS.isub X67.here hx rfl (hb hby at_285) rfl ks) ?_
        rw [show ((17 : Int32) - (15 : Int32)) = (2 : Int32) from by decide]
        obtain ⟨cl109, Ar109, q109, S109, M109, H109, G109⟩ := id (((((((((((((((((V33b.ext E35).other W37 ne_b1_b35).other W39 ne_b1_b35).other W41 ne_b1_b35).other W43 ne_b1_b35).other W45 ne_b1_b35).other W47 ne_b1_b35).other W49 ne_b1_b35).other W51 ne_b1_b35).other W53 ne_b1_b35).other W55 ne_b1_b35).other W57 ne_b1_b35).other W59 ne_b1_b35).other W61 ne_b1_b35).other W63 ne_b1_b35).other W65 ne_b1_b35).other W67 ne_b1_b35)
        have in109 := inb_of (j := (2 : Int32)) S109 ⟨by decide, by decide⟩
        have at109 : cl109.slots[(2 : Int32).toNatClampNeg]? = some (.long (95 : Int64)) := H109.at in109 rfl
        refine Dn.by (U' := T67.setTop (mkF m 287 #[.val (.int p0), .val (.int p1), .val (.long q2), .second, .val (.ref b1), .val (.ref b35), .val (.int (17 : Int32)), .val (.long ((90 : Int64) + (1 : Int64))), .second, .unset, .unset, .unset, .unset, .unset, .unset] [(.long (95 : Int64))])) (X67.laload hx (j := (2 : Int32)) (v := (.long (95 : Int64))) (by rw [e67]; exact Ar109.1) (State.isArrayOf_alike hZ.alike Ar109.2.1) Ar109.2.2 in109 at109 (g := (mkF m 286 #[.val (.int p0), .val (.int p1), .val (.long q2), .second, .val (.ref b1), .val (.ref b35), .val (.int (17 : Int32)), .val (.long ((90 : Int64) + (1 : Int64))), .second, .unset, .unset, .unset, .unset, .unset, .unset] [(.int (2 : Int32)), (.ref b1)])) rfl rfl (hb hby at_286)) ?_
        refine Dn.by (U' := T67.setTop (mkF m 288 #[.val (.int p0), .val (.int p1), .val (.long q2), .second, .val (.ref b1), .val (.ref b35), .val (.int (17 : Int32)), .val (.long ((90 : Int64) + (1 : Int64))), .second, .unset, .unset, .unset, .unset, .unset, .unset] [(.long (1 : Int64)), (.long (95 : Int64))])) (fun _ ks => XS.lconst X67.here hx rfl (hb hby at_287)  ks) ?_
        refine Dn.by (U' := T67.setTop (mkF m 289 #[.val (.int p0), .val (.int p1), .val (.long q2), .second, .val (.ref b1), .val (.ref b35), .val (.int (17 : Int32)), .val (.long ((90 : Int64) + (1 : Int64))), .second, .unset, .unset, .unset, .unset, .unset, .unset] [(.long ((95 : Int64) - (1 : Int64)))])) (fun _ ks => XS.lsub X67.here hx rfl (hb hby at_288) rfl ks) ?_
        refine Dn.by (U' := T67.setTop (mkF m 291 #[.val (.int p0), .val (.int p1), .val (.long q2), .second, .val (.ref b1), .val (.ref b35), .val (.int (17 : Int32)), .val (.long ((90 : Int64) + (1 : Int64))), .second, .val (.long ((95 : Int64) - (1 : Int64))), .second, .unset, .unset, .unset, .unset] [])) (fun _ ks => XS.lstore X67.here hx rfl (hb hby at_289) rfl (l' := #[.val (.int p0), .val (.int p1), .val (.long q2), .second, .val (.ref b1), .val (.ref b35), .val (.int (17 : Int32)), .val (.long ((90 : Int64) + (1 : Int64))), .second, .val (.long ((95 : Int64) - (1 : Int64))), .second, .unset, .unset, .unset, .unset]) rfl ks) ?_
        refine Dn.by (U' := T67.setTop (mkF m 292 #[.val (.int p0), .val (.int p1), .val (.long q2), .second, .val (.ref b1), .val (.ref b35), .val (.int (17 : Int32)), .val (.long ((90 : Int64) + (1 : Int64))), .second, .val (.long ((95 : Int64) - (1 : Int64))), .second, .unset, .unset, .unset, .unset] [(.int (0 : Int32))])) (fun _ ks => XS.iconst X67.here hx rfl (hb hby at_291)  ks) ?_
        refine Dn.by (U' := T67.setTop (mkF m 294 #[.val (.int p0), .val (.int p1), .val (.long q2), .second, .val (.ref b1), .val (.ref b35), .val (.int (17 : Int32)), .val (.long ((90 : Int64) + (1 : Int64))), .second, .val (.long ((95 : Int64) - (1 : Int64))), .second, .val (.int (0 : Int32)), .unset, .unset, .unset] [])) (fun _ ks => XS.istore X67.here hx rfl (hb hby at_292) rfl (l' := #[.val (.int p0), .val (.int p1), .val (.long q2), .second, .val (.ref b1), .val (.ref b35), .val (.int (17 : Int32)), .val (.long ((90 : Int64) + (1 : Int64))), .second, .val (.long ((95 : Int64) - (1 : Int64))), .second, .val (.int (0 : Int32)), .unset, .unset, .unset]) rfl ks) ?_
        refine Dn.by (U' := T67.setTop (mkF m 333 #[.val (.int p0), .val (.int p1), .val (.long q2), .second, .val (.ref b1), .val (.ref b35), .val (.int (17 : Int32)), .val (.long ((90 : Int64) + (1 : Int64))), .second, .val (.long ((95 : Int64) - (1 : Int64))), .second, .val (.int (0 : Int32)), .unset, .unset, .unset] [])) (fun _ ks => XS.goto X67.here hx rfl (pc0 := 294) (pc' := 333) rfl (hb hby at_294) (by decide) (by decide) ks) ?_
        exact J _ _ _ (own_R0 _ _ (91) (94) (by decide) (by decide) (by decide) (by decide) (by decide) (fun c q1 q2 => by unfold inS; omega))
      ·
        refine Dn.by (U' := T67.setTop (mkF m 269 #[.val (.int p0), .val (.int p1), .val (.long q2), .second, .val (.ref b1), .val (.ref b35), .val (.int (18 : Int32)), .unset, .unset, .unset, .unset, .unset, .unset, .unset, .unset] [(.ref b35)])) (fun _ ks => XS.aload X67.here hx rfl (hb hby at_267) rfl rfl ks) ?_
        refine Dn.by (U' := T67.setTop (mkF m 271 #[.val (.int p0), .val (.int p1), .val (.long q2), .second, .val (.ref b1), .val (.ref b35), .val (.int (18 : Int32)), .unset, .unset, .unset, .unset, .unset, .unset, .unset, .unset] [(.int (18 : Int32)), (.ref b35)])) (fun _ ks => XS.iload X67.here hx rfl (hb hby at_269) rfl ks) ?_
        refine Dn.by (U' := T67.setTop (mkF m 273 #[.val (.int p0), .val (.int p1), .val (.long q2), .second, .val (.ref b1), .val (.ref b35), .val (.int (18 : Int32)), .unset, .unset, .unset, .unset, .unset, .unset, .unset, .unset] [(.int (16 : Int32)), (.int (18 : Int32)), (.ref b35)])) (fun _ ks => XS.bipush X67.here hx rfl (hb hby at_271)  ks) ?_
        refine Dn.by (U' := T67.setTop (mkF m 274 #[.val (.int p0), .val (.int p1), .val (.long q2), .second, .val (.ref b1), .val (.ref b35), .val (.int (18 : Int32)), .unset, .unset, .unset, .unset, .unset, .unset, .unset, .unset] [(.int ((18 : Int32) - (16 : Int32))), (.ref b35)])) (fun _ ks => XS.isub X67.here hx rfl (hb hby at_273) rfl ks) ?_
        rw [show ((18 : Int32) - (16 : Int32)) = (2 : Int32) from by decide]
        obtain ⟨cl110, Ar110, q110, S110, M110, H110, G110⟩ := id V67b
        have in110 := inb_of (j := (2 : Int32)) S110 ⟨by decide, by decide⟩
        have at110 : cl110.slots[(2 : Int32).toNatClampNeg]? = some (.long (95 : Int64)) := H110.at in110 rfl
        refine Dn.by (U' := T67.setTop (mkF m 275 #[.val (.int p0), .val (.int p1), .val (.long q2), .second, .val (.ref b1), .val (.ref b35), .val (.int (18 : Int32)), .unset, .unset, .unset, .unset, .unset, .unset, .unset, .unset] [(.long (95 : Int64))])) (X67.laload hx (j := (2 : Int32)) (v := (.long (95 : Int64))) (by rw [e67]; exact Ar110.1) (State.isArrayOf_alike hZ.alike Ar110.2.1) Ar110.2.2 in110 at110 (g := (mkF m 274 #[.val (.int p0), .val (.int p1), .val (.long q2), .second, .val (.ref b1), .val (.ref b35), .val (.int (18 : Int32)), .unset, .unset, .unset, .unset, .unset, .unset, .unset, .unset] [(.int (2 : Int32)), (.ref b35)])) rfl rfl (hb hby at_274)) ?_
        refine Dn.by (U' := T67.setTop (mkF m 276 #[.val (.int p0), .val (.int p1), .val (.long q2), .second, .val (.ref b1), .val (.ref b35), .val (.int (18 : Int32)), .unset, .unset, .unset, .unset, .unset, .unset, .unset, .unset] [(.long (1 : Int64)), (.long (95 : Int64))])) (fun _ ks => XS.lconst X67.here hx rfl (hb hby at_275)  ks) ?_
        refine Dn.by (U' := T67.setTop (mkF m 277 #[.val (.int p0), .val (.int p1), .val (.long q2), .second, .val (.ref b1), .val (.ref b35), .val (.int (18 : Int32)), .unset, .unset, .unset, .unset, .unset, .unset, .unset, .unset] [(.long ((95 : Int64) + (1 : Int64)))])) (fun _ ks => XS.ladd X67.here hx rfl (hb hby at_276) rfl ks) ?_
        refine Dn.by (U' := T67.setTop (mkF m 279 #[.val (.int p0), .val (.int p1), .val (.long q2), .second, .val (.ref b1), .val (.ref b35), .val (.int (18 : Int32)), .val (.long ((95 : Int64) + (1 : Int64))), .second, .unset, .unset, .unset, .unset, .unset, .unset] [])) (fun _ ks => XS.lstore X67.here hx rfl (hb hby at_277) rfl (l' := #[.val (.int p0), .val (.int p1), .val (.long q2), .second, .val (.ref b1), .val (.ref b35), .val (.int (18 : Int32)), .val (.long ((95 : Int64) + (1 : Int64))), .second, .unset, .unset, .unset, .unset, .unset, .unset]) rfl ks) ?_
        refine Dn.by (U' := T67.setTop (mkF m 281 #[.val (.int p0), .val (.int p1), .val (.long q2), .second, .val (.ref b1), .val (.ref b35), .val (.int (18 : Int32)), .val (.long ((95 : Int64) + (1 : Int64))), .second, .unset, .unset, .unset, .unset, .unset, .unset] [(.ref b1)])) (fun _ ks => XS.aload X67.here hx rfl (hb hby at_279) rfl rfl ks) ?_
        refine Dn.by (U' := T67.setTop (mkF m 283 #[.val (.int p0), .val (.int p1), .val (.long q2), .second, .val (.ref b1), .val (.ref b35), .val (.int (18 : Int32)), .val (.long ((95 : Int64) + (1 : Int64))), .second, .unset, .unset, .unset, .unset, .unset, .unset] [(.int (18 : Int32)), (.ref b1)])) (fun _ ks => XS.iload X67.here hx rfl (hb hby at_281) rfl ks) ?_
        refine Dn.by (U' := T67.setTop (mkF m 285 #[.val (.int p0), .val (.int p1), .val (.long q2), .second, .val (.ref b1), .val (.ref b35), .val (.int (18 : Int32)), .val (.long ((95 : Int64) + (1 : Int64))), .second, .unset, .unset, .unset, .unset, .unset, .unset] [(.int (15 : Int32)), (.int (18 : Int32)), (.ref b1)])) (fun _ ks => XS.bipush X67.here hx rfl (hb hby at_283)  ks) ?_
        refine Dn.by (U' := T67.setTop (mkF m 286 #[.val (.int p0), .val (.int p1), .val (.long q2), .second, .val (.ref b1), .val (.ref b35), .val (.int (18 : Int32)), .val (.long ((95 : Int64) + (1 : Int64))), .second, .unset, .unset, .unset, .unset, .unset, .unset] [(.int ((18 : Int32) - (15 : Int32))), (.ref b1)])) (fun _ ks => XS.isub X67.here hx rfl (hb hby at_285) rfl ks) ?_
        rw [show ((18 : Int32) - (15 : Int32)) = (3 : Int32) from by decide]
        obtain ⟨cl111, Ar111, q111, S111, M111, H111, G111⟩ := id (((((((((((((((((V33b.ext E35).other W37 ne_b1_b35).other W39 ne_b1_b35).other W41 ne_b1_b35).other W43 ne_b1_b35).other W45 ne_b1_b35).other W47 ne_b1_b35).other W49 ne_b1_b35).other W51 ne_b1_b35).other W53 ne_b1_b35).other W55 ne_b1_b35).other W57 ne_b1_b35).other W59 ne_b1_b35).other W61 ne_b1_b35).other W63 ne_b1_b35).other W65 ne_b1_b35).other W67 ne_b1_b35)
        have in111 := inb_of (j := (3 : Int32)) S111 ⟨by decide, by decide⟩
        have at111 : cl111.slots[(3 : Int32).toNatClampNeg]? = some (.long (97 : Int64)) := H111.at in111 rfl
        refine Dn.by (U' := T67.setTop (mkF m 287 #[.val (.int p0), .val (.int p1), .val (.long q2), .second, .val (.ref b1), .val (.ref b35), .val (.int (18 : Int32)), .val (.long ((95 : Int64) + (1 : Int64))), .second, .unset, .unset, .unset, .unset, .unset, .unset] [(.long (97 : Int64))])) (X67.laload hx (j := (3 : Int32)) (v := (.long (97 : Int64))) (by rw [e67]; exact Ar111.1) (State.isArrayOf_alike hZ.alike Ar111.2.1) Ar111.2.2 in111 at111 (g := (mkF m 286 #[.val (.int p0), .val (.int p1), .val (.long q2), .second, .val (.ref b1), .val (.ref b35), .val (.int (18 : Int32)), .val (.long ((95 : Int64) + (1 : Int64))), .second, .unset, .unset, .unset, .unset, .unset, .unset] [(.int (3 : Int32)), (.ref b1)])) rfl rfl (hb hby at_286)) ?_
        refine Dn.by (U' := T67.setTop (mkF m 288 #[.val (.int p0), .val (.int p1), .val (.long q2), .second, .val (.ref b1), .val (.ref b35), .val (.int (18 : Int32)), .val (.long ((95 : Int64) + (1 : Int64))), .second, .unset, .unset, .unset, .unset, .unset, .unset] [(.long (1 : Int64)), (.long (97 : Int64))])) (fun _ ks => XS.lconst X67.here hx rfl (hb hby at_287)  ks) ?_
        refine Dn.by (U' := T67.setTop (mkF m 289 #[.val (.int p0), .val (.int p1), .val (.long q2), .second, .val (.ref b1), .val (.ref b35), .val (.int (18 : Int32)), .val (.long ((95 : Int64) + (1 : Int64))), .second, .unset, .unset, .unset, .unset, .unset, .unset] [(.long ((97 : Int64) - (1 : Int64)))])) (fun _ ks => XS.lsub X67.here hx rfl (hb hby at_288) rfl ks) ?_
        refine Dn.by (U' := T67.setTop (mkF m 291 #[.val (.int p0), .val (.int p1), .val (.long q2), .second, .val (.ref b1), .val (.ref b35), .val (.int (18 : Int32)), .val (.long ((95 : Int64) + (1 : Int64))), .second, .val (.long ((97 : Int64) - (1 : Int64))), .second, .unset, .unset, .unset, .unset] [])) (fun _ ks => XS.lstore X67.here hx rfl (hb hby at_289) rfl (l' := #[.val (.int p0), .val (.int p1), .val (.long q2), .second, .val (.ref b1), .val (.ref b35), .val (.int (18 : Int32)), .val (.long ((95 : Int64) + (1 : Int64))), .second, .val (.long ((97 : Int64) - (1 : Int64))), .second, .unset, .unset, .unset, .unset]) rfl ks) ?_
        refine Dn.by (U' := T67.setTop (mkF m 292 #[.val (.int p0), .val (.int p1), .val (.long q2), .second, .val (.ref b1), .val (.ref b35), .val (.int (18 : Int32)), .val (.long ((95 : Int64) + (1 : Int64))), .second, .val (.long ((97 : Int64) - (1 : Int64))), .second, .unset, .unset, .unset, .unset] [(.int (0 : Int32))])) (fun _ ks => XS.iconst X67.here hx rfl (hb hby at_291)  ks) ?_
        refine Dn.by (U' := T67.setTop (mkF m 294 #[.val (.int p0), .val (.int p1), .val (.long q2), .second, .val (.ref b1), .val (.ref b35), .val (.int (18 : Int32)), .val (.long ((95 : Int64) + (1 : Int64))), .second, .val (.long ((97 : Int64) - (1 : Int64))), .second, .val (.int (0 : Int32)), .unset, .unset, .unset] [])) (fun _ ks => XS.istore X67.here hx rfl (hb hby at_292) rfl (l' := #[.val (.int p0), .val (.int p1), .val (.long q2), .second, .val (.ref b1), .val (.ref b35), .val (.int (18 : Int32)), .val (.long ((95 : Int64) + (1 : Int64))), .second, .val (.long ((97 : Int64) - (1 : Int64))), .second, .val (.int (0 : Int32)), .unset, .unset, .unset]) rfl ks) ?_
        refine Dn.by (U' := T67.setTop (mkF m 333 #[.val (.int p0), .val (.int p1), .val (.long q2), .second, .val (.ref b1), .val (.ref b35), .val (.int (18 : Int32)), .val (.long ((95 : Int64) + (1 : Int64))), .second, .val (.long ((97 : Int64) - (1 : Int64))), .second, .val (.int (0 : Int32)), .unset, .unset, .unset] [])) (fun _ ks => XS.goto X67.here hx rfl (pc0 := 294) (pc' := 333) rfl (hb hby at_294) (by decide) (by decide) ks) ?_
        exact J _ _ _ (own_R0 _ _ (96) (96) (by decide) (by decide) (by decide) (by decide) (by decide) (fun c q1 q2 => by unfold inS; omega))
      ·
        refine Dn.by (U' := T67.setTop (mkF m 269 #[.val (.int p0), .val (.int p1), .val (.long q2), .second, .val (.ref b1), .val (.ref b35), .val (.int (19 : Int32)), .unset, .unset, .unset, .unset, .unset, .unset, .unset, .unset] [(.ref b35)])) (fun _ ks => XS.aload X67.here hx rfl (hb hby at_267) rfl rfl ks) ?_
        refine Dn.by (U' := T67.setTop (mkF m 271 #[.val (.int p0), .val (.int p1), .val (.long q2), .second, .val (.ref b1), .val (.ref b35), .val (.int (19 : Int32)), .unset, .unset, .unset, .unset, .unset, .unset, .unset, .unset] [(.int (19 : Int32)), (.ref b35)])) (fun _ ks => XS.iload X67.here hx rfl (hb hby at_269) rfl ks) ?_
        refine Dn.by (U' := T67.setTop (mkF m 273 #[.val (.int p0), .val (.int p1), .val (.long q2), .second, .val (.ref b1), .val (.ref b35), .val (.int (19 : Int32)), .unset, .unset, .unset, .unset, .unset, .unset, .unset, .unset] [(.int (16 : Int32)), (.int (19 : Int32)), (.ref b35)])) (fun _ ks => XS.bipush X67.here hx rfl (hb hby at_271)  ks) ?_
        refine Dn.by (U' := T67.setTop (mkF m 274 #[.val (.int p0), .val (.int p1), .val (.long q2), .second, .val (.ref b1), .val (.ref b35), .val (.int (19 : Int32)), .unset, .unset, .unset, .unset, .unset, .unset, .unset, .unset] [(.int ((19 : Int32) - (16 : Int32))), (.ref b35)])) (fun _ ks => XS.isub X67.here hx rfl (hb hby at_273) rfl ks) ?_
        rw [show ((19 : Int32) - (16 : Int32)) = (3 : Int32) from by decide]
        obtain ⟨cl112, Ar112, q112, S112, M112, H112, G112⟩ := id V67b
        have in112 := inb_of (j := (3 : Int32)) S112 ⟨by decide, by decide⟩
        have at112 : cl112.slots[(3 : Int32).toNatClampNeg]? = some (.long (122 : Int64)) := H112.at in112 rfl
        refine Dn.by (U' := T67.setTop (mkF m 275 #[.val (.int p0), .val (.int p1), .val (.long q2), .second, .val (.ref b1), .val (.ref b35), .val (.int (19 : Int32)), .unset, .unset, .unset, .unset, .unset, .unset, .unset, .unset] [(.long (122 : Int64))])) (X67.laload hx (j := (3 : Int32)) (v := (.long (122 : Int64))) (by rw [e67]; exact Ar112.1) (State.isArrayOf_alike hZ.alike Ar112.2.1) Ar112.2.2 in112 at112 (g := (mkF m 274 #[.val (.int p0), .val (.int p1), .val (.long q2), .second, .val (.ref b1), .val (.ref b35), .val (.int (19 : Int32)), .unset, .unset, .unset, .unset, .unset, .unset, .unset, .unset] [(.int (3 : Int32)), (.ref b35)])) rfl rfl (hb hby at_274)) ?_
        refine Dn.by (U' := T67.setTop (mkF m 276 #[.val (.int p0), .val (.int p1), .val (.long q2), .second, .val (.ref b1), .val (.ref b35), .val (.int (19 : Int32)), .unset, .unset, .unset, .unset, .unset, .unset, .unset, .unset] [(.long (1 : Int64)), (.long (122 : Int64))])) (fun _ ks => XS.lconst X67.here hx rfl (hb hby at_275)  ks) ?_
        refine Dn.by (U' := T67.setTop (mkF m 277 #[.val (.int p0), .val (.int p1), .val (.long q2), .second, .val (.ref b1), .val (.ref b35), .val (.int (19 : Int32)), .unset, .unset, .unset, .unset, .unset, .unset, .unset, .unset] [(.long ((122 : Int64) + (1 : Int64)))])) (fun _ ks => XS.ladd X67.here hx rfl (hb hby at_276) rfl ks) ?_
        refine Dn.by (U' := T67.setTop (mkF m 279 #[.val (.int p0), .val (.int p1), .val (.long q2), .second, .val (.ref b1), .val (.ref b35), .val (.int (19 : Int32)), .val (.long ((122 : Int64) + (1 : Int64))), .second, .unset, .unset, .unset, .unset, .unset, .unset] [])) (fun _ ks => XS.lstore X67.here hx rfl (hb hby at_277) rfl (l' := #[.val (.int p0), .val (.int p1), .val (.long q2), .second, .val (.ref b1), .val (.ref b35), .val (.int (19 : Int32)), .val (.long ((122 : Int64) + (1 : Int64))), .second, .unset, .unset, .unset, .unset, .unset, .unset]) rfl ks) ?_
        refine Dn.by (U' := T67.setTop (mkF m 281 #[.val (.int p0), .val (.int p1), .val (.long q2), .second, .val (.ref b1), .val (.ref b35), .val (.int (19 : Int32)), .val (.long ((122 : Int64) + (1 : Int64))), .second, .unset, .unset, .unset, .unset, .unset, .unset] [(.ref b1)])) (fun _ ks => XS.aload X67.here hx rfl (hb hby at_279) rfl rfl ks) ?_
        refine Dn.by (U' := T67.setTop (mkF m 283 #[.val (.int p0), .val (.int p1), .val (.long q2), .second, .val (.ref b1), .val (.ref b35), .val (.int (19 : Int32)), .val (.long ((122 : Int64) + (1 : Int64))), .second, .unset, .unset, .unset, .unset, .unset, .unset] [(.int (19 : Int32)), (.ref b1)])) (fun _ ks => XS.iload X67.here hx rfl (hb hby at_281) rfl ks) ?_
        refine Dn.by (U' := T67.setTop (mkF m 285 #[.val (.int p0), .val (.int p1), .val (.long q2), .second, .val (.ref b1), .val (.ref b35), .val (.int (19 : Int32)), .val (.long ((122 : Int64) + (1 : Int64))), .second, .unset, .unset, .unset, .unset, .unset, .unset] [(.int (15 : Int32)), (.int (19 : Int32)), (.ref b1)])) (fun _ ks => XS.bipush X67.here hx rfl (hb hby at_283)  ks) ?_
        refine Dn.by (U' := T67.setTop (mkF m 286 #[.val (.int p0), .val (.int p1), .val (.long q2), .second, .val (.ref b1), .val (.ref b35), .val (.int (19 : Int32)), .val (.long ((122 : Int64) + (1 : Int64))), .second, .unset, .unset, .unset, .unset, .unset, .unset] [(.int ((19 : Int32) - (15 : Int32))), (.ref b1)])) (fun _ ks => XS.isub X67.here hx rfl (hb hby at_285) rfl ks) ?_
        rw [show ((19 : Int32) - (15 : Int32)) = (4 : Int32) from by decide]
        obtain ⟨cl113, Ar113, q113, S113, M113, H113, G113⟩ := id (((((((((((((((((V33b.ext E35).other W37 ne_b1_b35).other W39 ne_b1_b35).other W41 ne_b1_b35).other W43 ne_b1_b35).other W45 ne_b1_b35).other W47 ne_b1_b35).other W49 ne_b1_b35).other W51 ne_b1_b35).other W53 ne_b1_b35).other W55 ne_b1_b35).other W57 ne_b1_b35).other W59 ne_b1_b35).other W61 ne_b1_b35).other W63 ne_b1_b35).other W65 ne_b1_b35).other W67 ne_b1_b35)
        have in113 := inb_of (j := (4 : Int32)) S113 ⟨by decide, by decide⟩
        have at113 : cl113.slots[(4 : Int32).toNatClampNeg]? = some (.long (192 : Int64)) := H113.at in113 rfl
        refine Dn.by (U' := T67.setTop (mkF m 287 #[.val (.int p0), .val (.int p1), .val (.long q2), .second, .val (.ref b1), .val (.ref b35), .val (.int (19 : Int32)), .val (.long ((122 : Int64) + (1 : Int64))), .second, .unset, .unset, .unset, .unset, .unset, .unset] [(.long (192 : Int64))])) (X67.laload hx (j := (4 : Int32)) (v := (.long (192 : Int64))) (by rw [e67]; exact Ar113.1) (State.isArrayOf_alike hZ.alike Ar113.2.1) Ar113.2.2 in113 at113 (g := (mkF m 286 #[.val (.int p0), .val (.int p1), .val (.long q2), .second, .val (.ref b1), .val (.ref b35), .val (.int (19 : Int32)), .val (.long ((122 : Int64) + (1 : Int64))), .second, .unset, .unset, .unset, .unset, .unset, .unset] [(.int (4 : Int32)), (.ref b1)])) rfl rfl (hb hby at_286)) ?_
        refine Dn.by (U' := T67.setTop (mkF m 288 #[.val (.int p0), .val (.int p1), .val (.long q2), .second, .val (.ref b1), .val (.ref b35), .val (.int (19 : Int32)), .val (.long ((122 : Int64) + (1 : Int64))), .second, .unset, .unset, .unset, .unset, .unset, .unset] [(.long (1 : Int64)), (.long (192 : Int64))])) (fun _ ks => XS.lconst X67.here hx rfl (hb hby at_287)  ks) ?_
        refine Dn.by (U' := T67.setTop (mkF m 289 #[.val (.int p0), .val (.int p1), .val (.long q2), .second, .val (.ref b1), .val (.ref b35), .val (.int (19 : Int32)), .val (.long ((122 : Int64) + (1 : Int64))), .second, .unset, .unset, .unset, .unset, .unset, .unset] [(.long ((192 : Int64) - (1 : Int64)))])) (fun _ ks => XS.lsub X67.here hx rfl (hb hby at_288) rfl ks) ?_
        refine Dn.by (U' := T67.setTop (mkF m 291 #[.val (.int p0), .val (.int p1), .val (.long q2), .second, .val (.ref b1), .val (.ref b35), .val (.int (19 : Int32)), .val (.long ((122 : Int64) + (1 : Int64))), .second, .val (.long ((192 : Int64) - (1 : Int64))), .second, .unset, .unset, .unset, .unset] [])) (fun _ ks => XS.lstore X67.here hx rfl (hb hby at_289) rfl (l' := #[.val (.int p0), .val (.int p1), .val (.long q2), .second, .val (.ref b1), .val (.ref b35), .val (.int (19 : Int32)), .val (.long ((122 : Int64) + (1 : Int64))), .second, .val (.long ((192 : Int64) - (1 : Int64))), .second, .unset, .unset, .unset, .unset]) rfl ks) ?_
        refine Dn.by (U' := T67.setTop (mkF m 292 #[.val (.int p0), .val (.int p1), .val (.long q2), .second, .val (.ref b1), .val (.ref b35), .val (.int (19 : Int32)), .val (.long ((122 : Int64) + (1 : Int64))), .second, .val (.long ((192 : Int64) - (1 : Int64))), .second, .unset, .unset, .unset, .unset] [(.int (0 : Int32))])) (fun _ ks => XS.iconst X67.here hx rfl (hb hby at_291)  ks) ?_
        refine Dn.by (U' := T67.setTop (mkF m 294 #[.val (.int p0), .val (.int p1), .val (.long q2), .second, .val (.ref b1), .val (.ref b35), .val (.int (19 : Int32)), .val (.long ((122 : Int64) + (1 : Int64))), .second, .val (.long ((192 : Int64) - (1 : Int64))), .second, .val (.int (0 : Int32)), .unset, .unset, .unset] [])) (fun _ ks => XS.istore X67.here hx rfl (hb hby at_292) rfl (l' := #[.val (.int p0), .val (.int p1), .val (.long q2), .second, .val (.ref b1), .val (.ref b35), .val (.int (19 : Int32)), .val (.long ((122 : Int64) + (1 : Int64))), .second, .val (.long ((192 : Int64) - (1 : Int64))), .second, .val (.int (0 : Int32)), .unset, .unset, .unset]) rfl ks) ?_
        refine Dn.by (U' := T67.setTop (mkF m 333 #[.val (.int p0), .val (.int p1), .val (.long q2), .second, .val (.ref b1), .val (.ref b35), .val (.int (19 : Int32)), .val (.long ((122 : Int64) + (1 : Int64))), .second, .val (.long ((192 : Int64) - (1 : Int64))), .second, .val (.int (0 : Int32)), .unset, .unset, .unset] [])) (fun _ ks => XS.goto X67.here hx rfl (pc0 := 294) (pc' := 333) rfl (hb hby at_294) (by decide) (by decide) ks) ?_
        exact J _ _ _ (own_R0 _ _ (123) (191) (by decide) (by decide) (by decide) (by decide) (by decide) (fun c q1 q2 => by unfold inS; omega))
      ·
        refine Dn.by (U' := T67.setTop (mkF m 269 #[.val (.int p0), .val (.int p1), .val (.long q2), .second, .val (.ref b1), .val (.ref b35), .val (.int (20 : Int32)), .unset, .unset, .unset, .unset, .unset, .unset, .unset, .unset] [(.ref b35)])) (fun _ ks => XS.aload X67.here hx rfl (hb hby at_267) rfl rfl ks) ?_
        refine Dn.by (U' := T67.setTop (mkF m 271 #[.val (.int p0), .val (.int p1), .val (.long q2), .second, .val (.ref b1), .val (.ref b35), .val (.int (20 : Int32)), .unset, .unset, .unset, .unset, .unset, .unset, .unset, .unset] [(.int (20 : Int32)), (.ref b35)])) (fun _ ks => XS.iload X67.here hx rfl (hb hby at_269) rfl ks) ?_
        refine Dn.by (U' := T67.setTop (mkF m 273 #[.val (.int p0), .val (.int p1), .val (.long q2), .second, .val (.ref b1), .val (.ref b35), .val (.int (20 : Int32)), .unset, .unset, .unset, .unset, .unset, .unset, .unset, .unset] [(.int (16 : Int32)), (.int (20 : Int32)), (.ref b35)])) (fun _ ks => XS.bipush X67.here hx rfl (hb hby at_271)  ks) ?_
        refine Dn.by (U' := T67.setTop (mkF m 274 #[.val (.int p0), .val (.int p1), .val (.long q2), .second, .val (.ref b1), .val (.ref b35), .val (.int (20 : Int32)), .unset, .unset, .unset, .unset, .unset, .unset, .unset, .unset] [(.int ((20 : Int32) - (16 : Int32))), (.ref b35)])) (fun _ ks => XS.isub X67.here hx rfl (hb hby at_273) rfl ks) ?_
        rw [show ((20 : Int32) - (16 : Int32)) = (4 : Int32) from by decide]
        obtain ⟨cl114, Ar114, q114, S114, M114, H114, G114⟩ := id V67b
        have in114 := inb_of (j := (4 : Int32)) S114 ⟨by decide, by decide⟩
        have at114 : cl114.slots[(4 : Int32).toNatClampNeg]? = some (.long (214 : Int64)) := H114.at in114 rfl
        refine Dn.by (U' := T67.setTop (mkF m 275 #[.val (.int p0), .val (.int p1), .val (.long q2), .second, .val (.ref b1), .val (.ref b35), .val (.int (20 : Int32)), .unset, .unset, .unset, .unset, .unset, .unset, .unset, .unset] [(.long (214 : Int64))])) (X67.laload hx (j := (4 : Int32)) (v := (.long (214 : Int64))) (by rw [e67]; exact Ar114.1) (State.isArrayOf_alike hZ.alike Ar114.2.1) Ar114.2.2 in114 at114 (g := (mkF m 274 #[.val (.int p0), .val (.int p1), .val (.long q2), .second, .val (.ref b1), .val (.ref b35), .val (.int (20 : Int32)), .unset, .unset, .unset, .unset, .unset, .unset, .unset, .unset] [(.int (4 : Int32)), (.ref b35)])) rfl rfl (hb hby at_274)) ?_
        refine Dn.by (U' := T67.setTop (mkF m 276 #[.val (.int p0), .val (.int p1), .val (.long q2), .second, .val (.ref b1), .val (.ref b35), .val (.int (20 : Int32)), .unset, .unset, .unset, .unset, .unset, .unset, .unset, .unset] [(.long (1 : Int64)), (.long (214 : Int64))])) (fun _ ks => XS.lconst X67.here hx rfl (hb hby at_275)  ks) ?_
        refine Dn.by (U' := T67.setTop (mkF m 277 #[.val (.int p0), .val (.int p1), .val (.long q2), .second, .val (.ref b1), .val (.ref b35), .val (.int (20 : Int32)), .unset, .unset, .unset, .unset, .unset, .unset, .unset, .unset] [(.long ((214 : Int64) + (1 : Int64)))])) (fun _ ks => XS.ladd X67.here hx rfl (hb hby at_276) rfl ks) ?_
        refine Dn.by (U' := T67.setTop (mkF m 279 #[.val (.int p0), .val (.int p1), .val (.long q2), .second, .val (.ref b1), .val (.ref b35), .val (.int (20 : Int32)), .val (.long ((214 : Int64) + (1 : Int64))), .second, .unset, .unset, .unset, .unset, .unset, .unset] [])) (fun _ ks => XS.lstore X67.here hx rfl (hb hby at_277) rfl (l' := #[.val (.int p0), .val (.int p1), .val (.long q2), .second, .val (.ref b1), .val (.ref b35), .val (.int (20 : Int32)), .val (.long ((214 : Int64) + (1 : Int64))), .second, .unset, .unset, .unset, .unset, .unset, .unset]) rfl ks) ?_
        refine Dn.by (U' := T67.setTop (mkF m 281 #[.val (.int p0), .val (.int p1), .val (.long q2), .second, .val (.ref b1), .val (.ref b35), .val (.int (20 : Int32)), .val (.long ((214 : Int64) + (1 : Int64))), .second, .unset, .unset, .unset, .unset, .unset, .unset] [(.ref b1)])) (fun _ ks => XS.aload X67.here hx rfl (hb hby at_279) rfl rfl ks) ?_
        refine Dn.by (U' := T67.setTop (mkF m 283 #[.val (.int p0), .val (.int p1), .val (.long q2), .second, .val (.ref b1), .val (.ref b35), .val (.int (20 : Int32)), .val (.long ((214 : Int64) + (1 : Int64))), .second, .unset, .unset, .unset, .unset, .unset, .unset] [(.int (20 : Int32)), (.ref b1)])) (fun _ ks => XS.iload X67.here hx rfl (hb hby at_281) rfl ks) ?_
        refine Dn.by (U' := T67.setTop (mkF m 285 #[.val (.int p0), .val (.int p1), .val (.long q2), .second, .val (.ref b1), .val (.ref b35), .val (.int (20 : Int32)), .val (.long ((214 : Int64) + (1 : Int64))), .second, .unset, .unset, .unset, .unset, .unset, .unset] [(.int (15 : Int32)), (.int (20 : Int32)), (.ref b1)])) (fun _ ks => XS.bipush X67.here hx rfl (hb hby at_283)  ks) ?_
        refine Dn.by (U' := T67.setTop (mkF m 286 #[.val (.int p0), .val (.int p1), .val (.long q2), .second, .val (.ref b1), .val (.ref b35), .val (.int (20 : Int32)), .val (.long ((214 : Int64) + (1 : Int64))), .second, .unset, .unset, .unset, .unset, .unset, .unset] [(.int ((20 : Int32) - (15 : Int32))), (.ref b1)])) (fun _ ks => XS.isub X67.here hx rfl (hb hby at_285) rfl ks) ?_
        rw [show ((20 : Int32) - (15 : Int32)) = (5 : Int32) from by decide]
        obtain ⟨cl115, Ar115, q115, S115, M115, H115, G115⟩ := id (((((((((((((((((V33b.ext E35).other W37 ne_b1_b35).other W39 ne_b1_b35).other W41 ne_b1_b35).other W43 ne_b1_b35).other W45 ne_b1_b35).other W47 ne_b1_b35).other W49 ne_b1_b35).other W51 ne_b1_b35).other W53 ne_b1_b35).other W55 ne_b1_b35).other W57 ne_b1_b35).other W59 ne_b1_b35).other W61 ne_b1_b35).other W63 ne_b1_b35).other W65 ne_b1_b35).other W67 ne_b1_b35)
        have in115 := inb_of (j := (5 : Int32)) S115 ⟨by decide, by decide⟩
        have at115 : cl115.slots[(5 : Int32).toNatClampNeg]? = some (.long (216 : Int64)) := H115.at in115 rfl
        refine Dn.by (U' := T67.setTop (mkF m 287 #[.val (.int p0), .val (.int p1), .val (.long q2), .second, .val (.ref b1), .val (.ref b35), .val (.int (20 : Int32)), .val (.long ((214 : Int64) + (1 : Int64))), .second, .unset, .unset, .unset, .unset, .unset, .unset] [(.long (216 : Int64))])) (X67.laload hx (j := (5 : Int32)) (v := (.long (216 : Int64))) (by rw [e67]; exact Ar115.1) (State.isArrayOf_alike hZ.alike Ar115.2.1) Ar115.2.2 in115 at115 (g := (mkF m 286 #[.val (.int p0), .val (.int p1), .val (.long q2), .second, .val (.ref b1), .val (.ref b35), .val (.int (20 : Int32)), .val (.long ((214 : Int64) + (1 : Int64))), .second, .unset, .unset, .unset, .unset, .unset, .unset] [(.int (5 : Int32)), (.ref b1)])) rfl rfl (hb hby at_286)) ?_
        refine Dn.by (U' := T67.setTop (mkF m 288 #[.val (.int p0), .val (.int p1), .val (.long q2), .second, .val (.ref b1), .val (.ref b35), .val (.int (20 : Int32)), .val (.long ((214 : Int64) + (1 : Int64))), .second, .unset, .unset, .unset, .unset, .unset, .unset] [(.long (1 : Int64)), (.long (216 : Int64))])) (fun _ ks => XS.lconst X67.here hx rfl (hb hby at_287)  ks) ?_
        refine Dn.by (U' := T67.setTop (mkF m 289 #[.val (.int p0), .val (.int p1), .val (.long q2), .second, .val (.ref b1), .val (.ref b35), .val (.int (20 : Int32)), .val (.long ((214 : Int64) + (1 : Int64))), .second, .unset, .unset, .unset, .unset, .unset, .unset] [(.long ((216 : Int64) - (1 : Int64)))])) (fun _ ks => XS.lsub X67.here hx rfl (hb hby at_288) rfl ks) ?_
        refine Dn.by (U' := T67.setTop (mkF m 291 #[.val (.int p0), .val (.int p1), .val (.long q2), .second, .val (.ref b1), .val (.ref b35), .val (.int (20 : Int32)), .val (.long ((214 : Int64) + (1 : Int64))), .second, .val (.long ((216 : Int64) - (1 : Int64))), .second, .unset, .unset, .unset, .unset] [])) (fun _ ks => XS.lstore X67.here hx rfl (hb hby at_289) rfl (l' := #[.val (.int p0), .val (.int p1), .val (.long q2), .second, .val (.ref b1), .val (.ref b35), .val (.int (20 : Int32)), .val (.long ((214 : Int64) + (1 : Int64))), .second, .val (.long ((216 : Int64) - (1 : Int64))), .second, .unset, .unset, .unset, .unset]) rfl ks) ?_
        refine Dn.by (U' := T67.setTop (mkF m 292 #[.val (.int p0), .val (.int p1), .val (.long q2), .second, .val (.ref b1), .val (.ref b35), .val (.int (20 : Int32)), .val (.long ((214 : Int64) + (1 : Int64))), .second, .val (.long ((216 : Int64) - (1 : Int64))), .second, .unset, .unset, .unset, .unset] [(.int (0 : Int32))])) (fun _ ks => XS.iconst X67.here hx rfl (hb hby at_291)  ks) ?_
        refine Dn.by (U' := T67.setTop (mkF m 294 #[.val (.int p0), .val (.int p1), .val (.long q2), .second, .val (.ref b1), .val (.ref b35), .val (.int (20 : Int32)), .val (.long ((214 : Int64) + (1 : Int64))), .second, .val (.long ((216 : Int64) - (1 : Int64))), .second, .val (.int (0 : Int32)), .unset, .unset, .unset] [])) (fun _ ks => XS.istore X67.here hx rfl (hb hby at_292) rfl (l' := #[.val (.int p0), .val (.int p1), .val (.long q2), .second, .val (.ref b1), .val (.ref b35), .val (.int (20 : Int32)), .val (.long ((214 : Int64) + (1 : Int64))), .second, .val (.long ((216 : Int64) - (1 : Int64))), .second, .val (.int (0 : Int32)), .unset, .unset, .unset]) rfl ks) ?_
        refine Dn.by (U' := T67.setTop (mkF m 333 #[.val (.int p0), .val (.int p1), .val (.long q2), .second, .val (.ref b1), .val (.ref b35), .val (.int (20 : Int32)), .val (.long ((214 : Int64) + (1 : Int64))), .second, .val (.long ((216 : Int64) - (1 : Int64))), .second, .val (.int (0 : Int32)), .unset, .unset, .unset] [])) (fun _ ks => XS.goto X67.here hx rfl (pc0 := 294) (pc' := 333) rfl (hb hby at_294) (by decide) (by decide) ks) ?_
        exact J _ _ _ (own_R0 _ _ (215) (215) (by decide) (by decide) (by decide) (by decide) (by decide) (fun c q1 q2 => by unfold inS; omega))
      ·
        refine Dn.by (U' := T67.setTop (mkF m 269 #[.val (.int p0), .val (.int p1), .val (.long q2), .second, .val (.ref b1), .val (.ref b35), .val (.int (21 : Int32)), .unset, .unset, .unset, .unset, .unset, .unset, .unset, .unset] [(.ref b35)])) (fun _ ks => XS.aload X67.here hx rfl (hb hby at_267) rfl rfl ks) ?_
        refine Dn.by (U' := T67.setTop (mkF m 271 #[.val (.int p0), .val (.int p1), .val (.long q2), .second, .val (.ref b1), .val (.ref b35), .val (.int (21 : Int32)), .unset, .unset, .unset, .unset, .unset, .unset, .unset, .unset] [(.int (21 : Int32)), (.ref b35)])) (fun _ ks => XS.iload X67.here hx rfl (hb hby at_269) rfl ks) ?_
        refine Dn.by (U' := T67.setTop (mkF m 273 #[.val (.int p0), .val (.int p1), .val (.long q2), .second, .val (.ref b1), .val (.ref b35), .val (.int (21 : Int32)), .unset, .unset, .unset, .unset, .unset, .unset, .unset, .unset] [(.int (16 : Int32)), (.int (21 : Int32)), (.ref b35)])) (fun _ ks => XS.bipush X67.here hx rfl (hb hby at_271)  ks) ?_
        refine Dn.by (U' := T67.setTop (mkF m 274 #[.val (.int p0), .val (.int p1), .val (.long q2), .second, .val (.ref b1), .val (.ref b35), .val (.int (21 : Int32)), .unset, .unset, .unset, .unset, .unset, .unset, .unset, .unset] [(.int ((21 : Int32) - (16 : Int32))), (.ref b35)])) (fun _ ks => XS.isub X67.here hx rfl (hb hby at_273) rfl ks) ?_
        rw [show ((21 : Int32) - (16 : Int32)) = (5 : Int32) from by decide]
        obtain ⟨cl116, Ar116, q116, S116, M116, H116, G116⟩ := id V67b
        have in116 := inb_of (j := (5 : Int32)) S116 ⟨by decide, by decide⟩
        have at116 : cl116.slots[(5 : Int32).toNatClampNeg]? = some (.long (246 : Int64)) := H116.at in116 rfl
        refine Dn.by (U' := T67.setTop (mkF m 275 #[.val (.int p0), .val (.int p1), .val (.long q2), .second, .val (.ref b1), .val (.ref b35), .val (.int (21 : Int32)), .unset, .unset, .unset, .unset, .unset, .unset, .unset, .unset] [(.long (246 : Int64))])) (X67.laload hx (j := (5 : Int32)) (v := (.long (246 : Int64))) (by rw [e67]; exact Ar116.1) (State.isArrayOf_alike hZ.alike Ar116.2.1) Ar116.2.2 in116 at116 (g := (mkF m 274 #[.val (.int p0), .val (.int p1), .val (.long q2), .second, .val (.ref b1), .val (.ref b35), .val (.int (21 : Int32)), .unset, .unset, .unset, .unset, .unset, .unset, .unset, .unset] [(.int (5 : Int32)), (.ref b35)])) rfl rfl (hb hby at_274)) ?_
        refine Dn.by (U' := T67.setTop (mkF m 276 #[.val (.int p0), .val (.int p1), .val (.long q2), .second, .val (.ref b1), .val (.ref b35), .val (.int (21 : Int32)), .unset, .unset, .unset, .unset, .unset, .unset, .unset, .unset] [(.long (1 : Int64)), (.long (246 : Int64))])) (fun _ ks => XS.lconst X67.here hx rfl (hb hby at_275)  ks) ?_
        refine Dn.by (U' := T67.setTop (mkF m 277 #[.val (.int p0), .val (.int p1), .val (.long q2), .second, .val (.ref b1), .val (.ref b35), .val (.int (21 : Int32)), .unset, .unset, .unset, .unset, .unset, .unset, .unset, .unset] [(.long ((246 : Int64) + (1 : Int64)))])) (fun _ ks => XS.ladd X67.here hx rfl (hb hby at_276) rfl ks) ?_
        refine Dn.by (U' := T67.setTop (mkF m 279 #[.val (.int p0), .val (.int p1), .val (.long q2), .second, .val (.ref b1), .val (.ref b35), .val (.int (21 : Int32)), .val (.long ((246 : Int64) + (1 : Int64))), .second, .unset, .unset, .unset, .unset, .unset, .unset] [])) (fun _ ks => XS.lstore X67.here hx rfl (hb hby at_277) rfl (l' := #[.val (.int p0), .val (.int p1), .val (.long q2), .second, .val (.ref b1), .val (.ref b35), .val (.int (21 : Int32)), .val (.long ((246 : Int64) + (1 : Int64))), .second, .unset, .unset, .unset, .unset, .unset, .unset]) rfl ks) ?_
        refine Dn.by (U' := T67.setTop (mkF m 281 #[.val (.int p0), .val (.int p1), .val (.long q2), .second, .val (.ref b1), .val (.ref b35), .val (.int (21 : Int32)), .val (.long ((246 : Int64) + (1 : Int64))), .second, .unset, .unset, .unset, .unset, .unset, .unset] [(.ref b1)])) (fun _ ks => XS.aload X67.here hx rfl (hb hby at_279) rfl rfl ks) ?_
        refine Dn.by (U' := T67.setTop (mkF m 283 #[.val (.int p0), .val (.int p1), .val (.long q2), .second, .val (.ref b1), .val (.ref b35), .val (.int (21 : Int32)), .val (.long ((246 : Int64) + (1 : Int64))), .second, .unset, .unset, .unset, .unset, .unset, .unset] [(.int (21 : Int32)), (.ref b1)])) (fun _ ks => XS.iload X67.here hx rfl (hb hby at_281) rfl ks) ?_
        refine Dn.by (U' := T67.setTop (mkF m 285 #[.val (.int p0), .val (.int p1), .val (.long q2), .second, .val (.ref b1), .val (.ref b35), .val (.int (21 : Int32)), .val (.long ((246 : Int64) + (1 : Int64))), .second, .unset, .unset, .unset, .unset, .unset, .unset] [(.int (15 : Int32)), (.int (21 : Int32)), (.ref b1)])) (fun _ ks => XS.bipush X67.here hx rfl (hb hby at_283)  ks) ?_
        refine Dn.by (U' := T67.setTop (mkF m 286 #[.val (.int p0), .val (.int p1), .val (.long q2), .second, .val (.ref b1), .val (.ref b35), .val (.int (21 : Int32)), .val (.long ((246 : Int64) + (1 : Int64))), .second, .unset, .unset, .unset, .unset, .unset, .unset] [(.int ((21 : Int32) - (15 : Int32))), (.ref b1)])) (fun _ ks => XS.isub X67.here hx rfl (hb hby at_285) rfl ks) ?_
        rw [show ((21 : Int32) - (15 : Int32)) = (6 : Int32) from by decide]
        obtain ⟨cl117, Ar117, q117, S117, M117, H117, G117⟩ := id (((((((((((((((((V33b.ext E35).other W37 ne_b1_b35).other W39 ne_b1_b35).other W41 ne_b1_b35).other W43 ne_b1_b35).other W45 ne_b1_b35).other W47 ne_b1_b35).other W49 ne_b1_b35).other W51 ne_b1_b35).other W53 ne_b1_b35).other W55 ne_b1_b35).other W57 ne_b1_b35).other W59 ne_b1_b35).other W61 ne_b1_b35).other W63 ne_b1_b35).other W65 ne_b1_b35).other W67 ne_b1_b35)
        have in117 := inb_of (j := (6 : Int32)) S117 ⟨by decide, by decide⟩
        have at117 : cl117.slots[(6 : Int32).toNatClampNeg]? = some (.long (248 : Int64)) := H117.at in117 rfl
        refine Dn.by (U' := T67.setTop (mkF m 287 #[.val (.int p0), .val (.int p1), .val (.long q2), .second, .val (.ref b1), .val (.ref b35), .val (.int (21 : Int32)), .val (.long ((246 : Int64) + (1 : Int64))), .second, .unset, .unset, .unset, .unset, .unset, .unset] [(.long (248 : Int64))])) (X67.laload hx (j := (6 : Int32)) (v := (.long (248 : Int64))) (by rw [e67]; exact Ar117.1) (State.isArrayOf_alike hZ.alike Ar117.2.1) Ar117.2.2 in117 at117 (g := (mkF m 286 #[.val (.int p0), .val (.int p1), .val (.long q2), .second, .val (.ref b1), .val (.ref b35), .val (.int (21 : Int32)), .val (.long ((246 : Int64) + (1 : Int64))), .second, .unset, .unset, .unset, .unset, .unset, .unset] [(.int (6 : Int32)), (.ref b1)])) rfl rfl (hb hby at_286)) ?_
        refine Dn.by (U' := T67.setTop (mkF m 288 #[.val (.int p0), .val (.int p1), .val (.long q2), .second, .val (.ref b1), .val (.ref b35), .val (.int (21 : Int32)), .val (.long ((246 : Int64) + (1 : Int64))), .second, .unset, .unset, .unset, .unset, .unset, .unset] [(.long (1 : Int64)), (.long (248 : Int64))])) (fun _ ks => XS.lconst X67.here hx rfl (hb hby at_287)  ks) ?_
        refine Dn.by (U' := T67.setTop (mkF m 289 #[.val (.int p0), .val (.int p1), .val (.long q2), .second, .val (.ref b1), .val (.ref b35), .val (.int (21 : Int32)), .val (.long ((246 : Int64) + (1 : Int64))), .second, .unset, .unset, .unset, .unset, .unset, .unset] [(.long ((248 : Int64) - (1 : Int64)))])) (fun _ ks => XS.lsub X67.here hx rfl (hb hby at_288) rfl ks) ?_
        refine Dn.by (U' := T67.setTop (mkF m 291 #[.val (.int p0), .val (.int p1), .val (.long q2), .second, .val (.ref b1), .val (.ref b35), .val (.int (21 : Int32)), .val (.long ((246 : Int64) + (1 : Int64))), .second, .val (.long ((248 : Int64) - (1 : Int64))), .second, .unset, .unset, .unset, .unset] [])) (fun _ ks => XS.lstore X67.here hx rfl (hb hby at_289) rfl (l' := #[.val (.int p0), .val (.int p1), .val (.long q2), .second, .val (.ref b1), .val (.ref b35), .val (.int (21 : Int32)), .val (.long ((246 : Int64) + (1 : Int64))), .second, .val (.long ((248 : Int64) - (1 : Int64))), .second, .unset, .unset, .unset, .unset]) rfl ks) ?_
        refine Dn.by (U' := T67.setTop (mkF m 292 #[.val (.int p0), .val (.int p1), .val (.long q2), .second, .val (.ref b1), .val (.ref b35), .val (.int (21 : Int32)), .val (.long ((246 : Int64) + (1 : Int64))), .second, .val (.long ((248 : Int64) - (1 : Int64))), .second, .unset, .unset, .unset, .unset] [(.int (0 : Int32))])) (fun _ ks => XS.iconst X67.here hx rfl (hb hby at_291)  ks) ?_
        refine Dn.by (U' := T67.setTop (mkF m 294 #[.val (.int p0), .val (.int p1), .val (.long q2), .second, .val (.ref b1), .val (.ref b35), .val (.int (21 : Int32)), .val (.long ((246 : Int64) + (1 : Int64))), .second, .val (.long ((248 : Int64) - (1 : Int64))), .second, .val (.int (0 : Int32)), .unset, .unset, .unset] [])) (fun _ ks => XS.istore X67.here hx rfl (hb hby at_292) rfl (l' := #[.val (.int p0), .val (.int p1), .val (.long q2), .second, .val (.ref b1), .val (.ref b35), .val (.int (21 : Int32)), .val (.long ((246 : Int64) + (1 : Int64))), .second, .val (.long ((248 : Int64) - (1 : Int64))), .second, .val (.int (0 : Int32)), .unset, .unset, .unset]) rfl ks) ?_
        refine Dn.by (U' := T67.setTop (mkF m 333 #[.val (.int p0), .val (.int p1), .val (.long q2), .second, .val (.ref b1), .val (.ref b35), .val (.int (21 : Int32)), .val (.long ((246 : Int64) + (1 : Int64))), .second, .val (.long ((248 : Int64) - (1 : Int64))), .second, .val (.int (0 : Int32)), .unset, .unset, .unset] [])) (fun _ ks => XS.goto X67.here hx rfl (pc0 := 294) (pc' := 333) rfl (hb hby at_294) (by decide) (by decide) ks) ?_
        exact J _ _ _ (own_R0 _ _ (247) (247) (by decide) (by decide) (by decide) (by decide) (by decide) (fun c q1 q2 => by unfold inS; omega))
      ·
        refine Dn.by (U' := T67.setTop (mkF m 269 #[.val (.int p0), .val (.int p1), .val (.long q2), .second, .val (.ref b1), .val (.ref b35), .val (.int (22 : Int32)), .unset, .unset, .unset, .unset, .unset, .unset, .unset, .unset] [(.ref b35)])) (fun _ ks => XS.aload X67.here hx rfl (hb hby at_267) rfl rfl ks) ?_
        refine Dn.by (U' := T67.setTop (mkF m 271 #[.val (.int p0), .val (.int p1), .val (.long q2), .second, .val (.ref b1), .val (.ref b35), .val (.int (22 : Int32)), .unset, .unset, .unset, .unset, .unset, .unset, .unset, .unset] [(.int (22 : Int32)), (.ref b35)])) (fun _ ks => XS.iload X67.here hx rfl (hb hby at_269) rfl ks) ?_
        refine Dn.by (U' := T67.setTop (mkF m 273 #[.val (.int p0), .val (.int p1), .val (.long q2), .second, .val (.ref b1), .val (.ref b35), .val (.int (22 : Int32)), .unset, .unset, .unset, .unset, .unset, .unset, .unset, .unset] [(.int (16 : Int32)), (.int (22 : Int32)), (.ref b35)])) (fun _ ks => XS.bipush X67.here hx rfl (hb hby at_271)  ks) ?_
        refine Dn.by (U' := T67.setTop (mkF m 274 #[.val (.int p0), .val (.int p1), .val (.long q2), .second, .val (.ref b1), .val (.ref b35), .val (.int (22 : Int32)), .unset, .unset, .unset, .unset, .unset, .unset, .unset, .unset] [(.int ((22 : Int32) - (16 : Int32))), (.ref b35)])) (fun _ ks => XS.isub X67.here hx rfl (hb hby at_273) rfl ks) ?_
        rw [show ((22 : Int32) - (16 : Int32)) = (6 : Int32) from by decide]
        obtain ⟨cl118, Ar118, q118, S118, M118, H118, G118⟩ := id V67b
        have in118 := inb_of (j := (6 : Int32)) S118 ⟨by decide, by decide⟩
        have at118 : cl118.slots[(6 : Int32).toNatClampNeg]? = some (.long (767 : Int64)) := H118.at in118 rfl
        refine Dn.by (U' := T67.setTop (mkF m 275 #[.val (.int p0), .val (.int p1), .val (.long q2), .second, .val (.ref b1), .val (.ref b35), .val (.int (22 : Int32)), .unset, .unset, .unset, .unset, .unset, .unset, .unset, .unset] [(.long (767 : Int64))])) (X67.laload hx (j := (6 : Int32)) (v := (.long (767 : Int64))) (by rw [e67]; exact Ar118.1) (State.isArrayOf_alike hZ.alike Ar118.2.1) Ar118.2.2 in118 at118 (g := (mkF m 274 #[.val (.int p0), .val (.int p1), .val (.long q2), .second, .val (.ref b1), .val (.ref b35), .val (.int (22 : Int32)), .unset, .unset, .unset, .unset, .unset, .unset, .unset, .unset] [(.int (6 : Int32)), (.ref b35)])) rfl rfl (hb hby at_274)) ?_
        refine Dn.by (U' := T67.setTop (mkF m 276 #[.val (.int p0), .val (.int p1), .val (.long q2), .second, .val (.ref b1), .val (.ref b35), .val (.int (22 : Int32)), .unset, .unset, .unset, .unset, .unset, .unset, .unset, .unset] [(.long (1 : Int64)), (.long (767 : Int64))])) (fun _ ks => XS.lconst X67.here hx rfl (hb hby at_275)  ks) ?_
        refine Dn.by (U' := T67.setTop (mkF m 277 #[.val (.int p0), .val (.int p1), .val (.long q2), .second, .val (.ref b1), .val (.ref b35), .val (.int (22 : Int32)), .unset, .unset, .unset, .unset, .unset, .unset, .unset, .unset] [(.long ((767 : Int64) + (1 : Int64)))])) (fun _ ks => XS.ladd X67.here hx rfl (hb hby at_276) rfl ks) ?_
        refine Dn.by (U' := T67.setTop (mkF m 279 #[.val (.int p0), .val (.int p1), .val (.long q2), .second, .val (.ref b1), .val (.ref b35), .val (.int (22 : Int32)), .val (.long ((767 : Int64) + (1 : Int64))), .second, .unset, .unset, .unset, .unset, .unset, .unset] [])) (fun _ ks => XS.lstore X67.here hx rfl (hb hby at_277) rfl (l' := #[.val (.int p0), .val (.int p1), .val (.long q2), .second, .val (.ref b1), .val (.ref b35), .val (.int (22 : Int32)), .val (.long ((767 : Int64) + (1 : Int64))), .second, .unset, .unset, .unset, .unset, .unset, .unset]) rfl ks) ?_
        refine Dn.by (U' := T67.setTop (mkF m 281 #[.val (.int p0), .val (.int p1), .val (.long q2), .second, .val (.ref b1), .val (.ref b35), .val (.int (22 : Int32)), .val (.long ((767 : Int64) + (1 : Int64))), .second, .unset, .unset, .unset, .unset, .unset, .unset] [(.ref b1)])) (fun _ ks => XS.aload X67.here hx rfl (hb hby at_279) rfl rfl ks) ?_
        refine Dn.by (U' := T67.setTop (mkF m 283 #[.val (.int p0), .val (.int p1), .val (.long q2), .second, .val (.ref b1), .val (.ref b35), .val (.int (22 : Int32)), .val (.long ((767 : Int64) + (1 : Int64))), .second, .unset, .unset, .unset, .unset, .unset, .unset] [(.int (22 : Int32)), (.ref b1)])) (fun _ ks => XS.iload X67.here hx rfl (hb hby at_281) rfl ks) ?_
        refine Dn.by (U' := T67.setTop (mkF m 285 #[.val (.int p0), .val (.int p1), .val (.long q2), .second, .val (.ref b1), .val (.ref b35), .val (.int (22 : Int32)), .val (.long ((767 : Int64) + (1 : Int64))), .second, .unset, .unset, .unset, .unset, .unset, .unset] [(.int (15 : Int32)), (.int (22 : Int32)), (.ref b1)])) (fun _ ks => XS.bipush X67.here hx rfl (hb hby at_283)  ks) ?_
        refine Dn.by (U' := T67.setTop (mkF m 286 #[.val (.int p0), .val (.int p1), .val (.long q2), .second, .val (.ref b1), .val (.ref b35), .val (.int (22 : Int32)), .val (.long ((767 : Int64) + (1 : Int64))), .second, .unset, .unset, .unset, .unset, .unset, .unset] [(.int ((22 : Int32) - (15 : Int32))), (.ref b1)])) (fun _ ks => XS.isub X67.here hx rfl (hb hby at_285) rfl ks) ?_
        rw [show ((22 : Int32) - (15 : Int32)) = (7 : Int32) from by decide]
        obtain ⟨cl119, Ar119, q119, S119, M119, H119, G119⟩ := id (((((((((((((((((V33b.ext E35).other W37 ne_b1_b35).other W39 ne_b1_b35).other W41 ne_b1_b35).other W43 ne_b1_b35).other W45 ne_b1_b35).other W47 ne_b1_b35).other W49 ne_b1_b35).other W51 ne_b1_b35).other W53 ne_b1_b35).other W55 ne_b1_b35).other W57 ne_b1_b35).other W59 ne_b1_b35).other W61 ne_b1_b35).other W63 ne_b1_b35).other W65 ne_b1_b35).other W67 ne_b1_b35)
        have in119 := inb_of (j := (7 : Int32)) S119 ⟨by decide, by decide⟩
        have at119 : cl119.slots[(7 : Int32).toNatClampNeg]? = some (.long (880 : Int64)) := H119.at in119 rfl
        refine Dn.by (U' := T67.setTop (mkF m 287 #[.val (.int p0), .val (.int p1), .val (.long q2), .second, .val (.ref b1), .val (.ref b35), .val (.int (22 : Int32)), .val (.long ((767 : Int64) + (1 : Int64))), .second, .unset, .unset, .unset, .unset, .unset, .unset] [(.long (880 : Int64))])) (X67.laload hx (j := (7 : Int32)) (v := (.long (880 : Int64))) (by rw [e67]; exact Ar119.1) (State.isArrayOf_alike hZ.alike Ar119.2.1) Ar119.2.2 in119 at119 (g := (mkF m 286 #[.val (.int p0), .val (.int p1), .val (.long q2), .second, .val (.ref b1), .val (.ref b35), .val (.int (22 : Int32)), .val (.long ((767 : Int64) + (1 : Int64))), .second, .unset, .unset, .unset, .unset, .unset, .unset] [(.int (7 : Int32)), (.ref b1)])) rfl rfl (hb hby at_286)) ?_
        refine Dn.by (U' := T67.setTop (mkF m 288 #[.val (.int p0), .val (.int p1), .val (.long q2), .second, .val (.ref b1), .val (.ref b35), .val (.int (22 : Int32)), .val (.long ((767 : Int64) + (1 : Int64))), .second, .unset, .unset, .unset, .unset, .unset, .unset] [(.long (1 : Int64)), (.long (880 : Int64))])) (fun _ ks => XS.lconst X67.here hx rfl (hb hby at_287)  ks) ?_
        refine Dn.by (U' := T67.setTop (mkF m 289 #[.val (.int p0), .val (.int p1), .val (.long q2), .second, .val (.ref b1), .val (.ref b35), .val (.int (22 : Int32)), .val (.long ((767 : Int64) + (1 : Int64))), .second, .unset, .unset, .unset, .unset, .unset, .unset] [(.long ((880 : Int64) - (1 : Int64)))])) (fun _ ks => XS.lsub X67.here hx rfl (hb hby at_288) rfl ks) ?_
        refine Dn.by (U' := T67.setTop (mkF m 291 #[.val (.int p0), .val (.int p1), .val (.long q2), .second, .val (.ref b1), .val (.ref b35), .val (.int (22 : Int32)), .val (.long ((767 : Int64) + (1 : Int64))), .second, .val (.long ((880 : Int64) - (1 : Int64))), .second, .unset, .unset, .unset, .unset] [])) (fun _ ks => XS.lstore X67.here hx rfl (hb hby at_289) rfl (l' := #[.val (.int p0), .val (.int p1), .val (.long q2), .second, .val (.ref b1), .val (.ref b35), .val (.int (22 : Int32)), .val (.long ((767 : Int64) + (1 : Int64))), .second, .val (.long ((880 : Int64) - (1 : Int64))), .second, .unset, .unset, .unset, .unset]) rfl ks) ?_
        refine Dn.by (U' := T67.setTop (mkF m 292 #[.val (.int p0), .val (.int p1), .val (.long q2), .second, .val (.ref b1), .val (.ref b35), .val (.int (22 : Int32)), .val (.long ((767 : Int64) + (1 : Int64))), .second, .val (.long ((880 : Int64) - (1 : Int64))), .second, .unset, .unset, .unset, .unset] [(.int (0 : Int32))])) (fun _ ks => XS.iconst X67.here hx rfl (hb hby at_291)  ks) ?_
        refine Dn.by (U' := T67.setTop (mkF m 294 #[.val (.int p0), .val (.int p1), .val (.long q2), .second, .val (.ref b1), .val (.ref b35), .val (.int (22 : Int32)), .val (.long ((767 : Int64) + (1 : Int64))), .second, .val (.long ((880 : Int64) - (1 : Int64))), .second, .val (.int (0 : Int32)), .unset, .unset, .unset] [])) (fun _ ks => XS.istore X67.here hx rfl (hb hby at_292) rfl (l' := #[.val (.int p0), .val (.int p1), .val (.long q2), .second, .val (.ref b1), .val (.ref b35), .val (.int (22 : Int32)), .val (.long ((767 : Int64) + (1 : Int64))), .second, .val (.long ((880 : Int64) - (1 : Int64))), .second, .val (.int (0 : Int32)), .unset, .unset, .unset]) rfl ks) ?_
        refine Dn.by (U' := T67.setTop (mkF m 333 #[.val (.int p0), .val (.int p1), .val (.long q2), .second, .val (.ref b1), .val (.ref b35), .val (.int (22 : Int32)), .val (.long ((767 : Int64) + (1 : Int64))), .second, .val (.long ((880 : Int64) - (1 : Int64))), .second, .val (.int (0 : Int32)), .unset, .unset, .unset] [])) (fun _ ks => XS.goto X67.here hx rfl (pc0 := 294) (pc' := 333) rfl (hb hby at_294) (by decide) (by decide) ks) ?_
        exact J _ _ _ (own_R0 _ _ (768) (879) (by decide) (by decide) (by decide) (by decide) (by decide) (fun c q1 q2 => by unfold inS; omega))
      ·
        refine Dn.by (U' := T67.setTop (mkF m 269 #[.val (.int p0), .val (.int p1), .val (.long q2), .second, .val (.ref b1), .val (.ref b35), .val (.int (23 : Int32)), .unset, .unset, .unset, .unset, .unset, .unset, .unset, .unset] [(.ref b35)])) (fun _ ks => XS.aload X67.here hx rfl (hb hby at_267) rfl rfl ks) ?_
        refine Dn.by (U' := T67.setTop (mkF m 271 #[.val (.int p0), .val (.int p1), .val (.long q2), .second, .val (.ref b1), .val (.ref b35), .val (.int (23 : Int32)), .unset, .unset, .unset, .unset, .unset, .unset, .unset, .unset] [(.int (23 : Int32)), (.ref b35)])) (fun _ ks => XS.iload X67.here hx rfl (hb hby at_269) rfl ks) ?_
        refine Dn.by (U' := T67.setTop (mkF m 273 #[.val (.int p0), .val (.int p1), .val (.long q2), .second, .val (.ref b1), .val (.ref b35), .val (.int (23 : Int32)), .unset, .unset, .unset, .unset, .unset, .unset, .unset, .unset] [(.int (16 : Int32)), (.int (23 : Int32)), (.ref b35)])) (fun _ ks => XS.bipush X67.here hx rfl (hb hby at_271)  ks) ?_
        refine Dn.by (U' := T67.setTop (mkF m 274 #[.val (.int p0), .val (.int p1), .val (.long q2), .second, .val (.ref b1), .val (.ref b35), .val (.int (23 : Int32)), .unset, .unset, .unset, .unset, .unset, .unset, .unset, .unset] [(.int ((23 : Int32) - (16 : Int32))), (.ref b35)])) (fun _ ks => XS.isub X67.here hx rfl (hb hby at_273) rfl ks) ?_
        rw [show ((23 : Int32) - (16 : Int32)) = (7 : Int32) from by decide]
        obtain ⟨cl120, Ar120, q120, S120, M120, H120, G120⟩ := id V67b
        have in120 := inb_of (j := (7 : Int32)) S120 ⟨by decide, by decide⟩
        have at120 : cl120.slots[(7 : Int32).toNatClampNeg]? = some (.long (893 : Int64)) := H120.at in120 rfl
        refine Dn.by (U' := T67.setTop (mkF m 275 #[.val (.int p0), .val (.int p1), .val (.long q2), .second, .val (.ref b1), .val (.ref b35), .val (.int (23 : Int32)), .unset, .unset, .unset, .unset, .unset, .unset, .unset, .unset] [(.long (893 : Int64))])) (X67.laload hx (j := (7 : Int32)) (v := (.long (893 : Int64))) (by rw [e67]; exact Ar120.1) (State.isArrayOf_alike hZ.alike Ar120.2.1) Ar120.2.2 in120 at120 (g := (mkF m 274 #[.val (.int p0), .val (.int p1), .val (.long q2), .second, .val (.ref b1), .val (.ref b35), .val (.int (23 : Int32)), .unset, .unset, .unset, .unset, .unset, .unset, .unset, .unset] [(.int (7 : Int32)), (.ref b35)])) rfl rfl (hb hby at_274)) ?_
        refine Dn.by (U' := T67.setTop (mkF m 276 #[.val (.int p0), .val (.int p1), .val (.long q2), .second, .val (.ref b1), .val (.ref b35), .val (.int (23 : Int32)), .unset, .unset, .unset, .unset, .unset, .unset, .unset, .unset] [(.long (1 : Int64)), (.long (893 : Int64))])) (fun _ ks => XS.lconst X67.here hx rfl (hb hby at_275)  ks) ?_
        refine Dn.by (U' := T67.setTop (mkF m 277 #[.val (.int p0), .val (.int p1), .val (.long q2), .second, .val (.ref b1), .val (.ref b35), .val (.int (23 : Int32)), .unset, .unset, .unset, .unset, .unset, .unset, .unset, .unset] [(.long ((893 : Int64) + (1 : Int64)))])) (fun _ ks => XS.ladd X67.here hx rfl (hb hby at_276) rfl ks) ?_
        refine Dn.by (U' := T67.setTop (mkF m 279 #[.val (.int p0), .val (.int p1), .val (.long q2), .second, .val (.ref b1), .val (.ref b35), .val (.int (23 : Int32)), .val (.long ((893 : Int64) + (1 : Int64))), .second, .unset, .unset, .unset, .unset, .unset, .unset] [])) (fun _ ks => XS.lstore X67.here hx rfl (hb hby at_277) rfl (l' := #[.val (.int p0), .val (.int p1), .val (.long q2), .second, .val (.ref b1), .val (.ref b35), .val (.int (23 : Int32)), .val (.long ((893 : Int64) + (1 : Int64))), .second, .unset, .unset, .unset, .unset, .unset, .unset]) rfl ks) ?_
        refine Dn.by (U' := T67.setTop (mkF m 281 #[.val (.int p0), .val (.int p1), .val (.long q2), .second, .val (.ref b1), .val (.ref b35), .val (.int (23 : Int32)), .val (.long ((893 : Int64) + (1 : Int64))), .second, .unset, .unset, .unset, .unset, .unset, .unset] [(.ref b1)])) (fun _ ks => XS.aload X67.here hx rfl (hb hby at_279) rfl rfl ks) ?_
        refine Dn.by (U' := T67.setTop (mkF m 283 #[.val (.int p0), .val (.int p1), .val (.long q2), .second, .val (.ref b1), .val (.ref b35), .val (.int (23 : Int32)), .val (.long ((893 : Int64) + (1 : Int64))), .second, .unset, .unset, .unset, .unset, .unset, .unset] [(.int (23 : Int32)), (.ref b1)])) (fun _ ks => XS.iload X67.here hx rfl (hb hby at_281) rfl ks) ?_
        refine Dn.by (U' := T67.setTop (mkF m 285 #[.val (.int p0), .val (.int p1), .val (.long q2), .second, .val (.ref b1), .val (.ref b35), .val (.int (23 : Int32)), .val (.long ((893 : Int64) + (1 : Int64))), .second, .unset, .unset, .unset, .unset, .unset, .unset] [(.int (15 : Int32)), (.int (23 : Int32)), (.ref b1)])) (fun _ ks => XS.bipush X67.here hx rfl (hb hby at_283)  ks) ?_
        refine Dn.by (U' := T67.setTop (mkF m 286 #[.val (.int p0), .val (.int p1), .val (.long q2), .second, .val (.ref b1), .val (.ref b35), .val (.int (23 : Int32)), .val (.long ((893 : Int64) + (1 : Int64))), .second, .unset, .unset, .unset, .unset, .unset, .unset] [(.int ((23 : Int32) - (15 : Int32))), (.ref b1)])) (fun _ ks => XS.isub X67.here hx rfl (hb hby at_285) rfl ks) ?_
        rw [show ((23 : Int32) - (15 : Int32)) = (8 : Int32) from by decide]
        obtain ⟨cl121, Ar121, q121, S121, M121, H121, G121⟩ := id (((((((((((((((((V33b.ext E35).other W37 ne_b1_b35).other W39 ne_b1_b35).other W41 ne_b1_b35).other W43 ne_b1_b35).other W45 ne_b1_b35).other W47 ne_b1_b35).other W49 ne_b1_b35).other W51 ne_b1_b35).other W53 ne_b1_b35).other W55 ne_b1_b35).other W57 ne_b1_b35).other W59 ne_b1_b35).other W61 ne_b1_b35).other W63 ne_b1_b35).other W65 ne_b1_b35).other W67 ne_b1_b35)
        have in121 := inb_of (j := (8 : Int32)) S121 ⟨by decide, by decide⟩
        have at121 : cl121.slots[(8 : Int32).toNatClampNeg]? = some (.long (895 : Int64)) := H121.at in121 rfl
        refine Dn.by (U' := T67.setTop (mkF m 287 #[.val (.int p0), .val (.int p1), .val (.long q2), .second, .val (.ref b1), .val (.ref b35), .val (.int (23 : Int32)), .val (.long ((893 : Int64) + (1 : Int64))), .second, .unset, .unset, .unset, .unset, .unset, .unset] [(.long (895 : Int64))])) (X67.laload hx (j := (8 : Int32)) (v := (.long (895 : Int64))) (by rw [e67]; exact Ar121.1) (State.isArrayOf_alike hZ.alike Ar121.2.1) Ar121.2.2 in121 at121 (g := (mkF m 286 #[.val (.int p0), .val (.int p1), .val (.long q2), .second, .val (.ref b1), .val (.ref b35), .val (.int (23 : Int32)), .val (.long ((893 : Int64) + (1 : Int64))), .second, .unset, .unset, .unset, .unset, .unset, .unset] [(.int (8 : Int32)), (.ref b1)])) rfl rfl (hb hby at_286)) ?_
        refine Dn.by (U' := T67.setTop (mkF m 288 #[.val (.int p0), .val (.int p1), .val (.long q2), .second, .val (.ref b1), .val (.ref b35), .val (.int (23 : Int32)), .val (.long ((893 : Int64) + (1 : Int64))), .second, .unset, .unset, .unset, .unset, .unset, .unset] [(.long (1 : Int64)), (.long (895 : Int64))])) (fun _ ks => XS.lconst X67.here hx rfl (hb hby at_287)  ks) ?_
        refine Dn.by (U' := T67.setTop (mkF m 289 #[.val (.int p0), .val (.int p1), .val (.long q2), .second, .val (.ref b1), .val (.ref b35), .val (.int (23 : Int32)), .val (.long ((893 : Int64) + (1 : Int64))), .second, .unset, .unset, .unset, .unset, .unset, .unset] [(.long ((895 : Int64) - (1 : Int64)))])) (fun _ ks => XS.lsub X67.here hx rfl (hb hby at_288) rfl ks) ?_
        refine Dn.by (U' := T67.setTop (mkF m 291 #[.val (.int p0), .val (.int p1), .val (.long q2), .second, .val (.ref b1), .val (.ref b35), .val (.int (23 : Int32)), .val (.long ((893 : Int64) + (1 : Int64))), .second, .val (.long ((895 : Int64) - (1 : Int64))), .second, .unset, .unset, .unset, .unset] [])) (fun _ ks => XS.lstore X67.here hx rfl (hb hby at_289) rfl (l' := #[.val (.int p0), .val (.int p1), .val (.long q2), .second, .val (.ref b1), .val (.ref b35), .val (.int (23 : Int32)), .val (.long ((893 : Int64) + (1 : Int64))), .second, .val (.long ((895 : Int64) - (1 : Int64))), .second, .unset, .unset, .unset, .unset]) rfl ks) ?_
        refine Dn.by (U' := T67.setTop (mkF m 292 #[.val (.int p0), .val (.int p1), .val (.long q2), .second, .val (.ref b1), .val (.ref b35), .val (.int (23 : Int32)), .val (.long ((893 : Int64) + (1 : Int64))), .second, .val (.long ((895 : Int64) - (1 : Int64))), .second, .unset, .unset, .unset, .unset] [(.int (0 : Int32))])) (fun _ ks => XS.iconst X67.here hx rfl (hb hby at_291)  ks) ?_
        refine Dn.by (U' := T67.setTop (mkF m 294 #[.val (.int p0), .val (.int p1), .val (.long q2), .second, .val (.ref b1), .val (.ref b35), .val (.int (23 : Int32)), .val (.long ((893 : Int64) + (1 : Int64))), .second, .val (.long ((895 : Int64) - (1 : Int64))), .second, .val (.int (0 : Int32)), .unset, .unset, .unset] [])) (fun _ ks => XS.istore X67.here hx rfl (hb hby at_292) rfl (l' := #[.val (.int p0), .val (.int p1), .val (.long q2), .second, .val (.ref b1), .val (.ref b35), .val (.int (23 : Int32)), .val (.long ((893 : Int64) + (1 : Int64))), .second, .val (.long ((895 : Int64) - (1 : Int64))), .second, .val (.int (0 : Int32)), .unset, .unset, .unset]) rfl ks) ?_
        refine Dn.by (U' := T67.setTop (mkF m 333 #[.val (.int p0), .val (.int p1), .val (.long q2), .second, .val (.ref b1), .val (.ref b35), .val (.int (23 : Int32)), .val (.long ((893 : Int64) + (1 : Int64))), .second, .val (.long ((895 : Int64) - (1 : Int64))), .second, .val (.int (0 : Int32)), .unset, .unset, .unset] [])) (fun _ ks => XS.goto X67.here hx rfl (pc0 := 294) (pc' := 333) rfl (hb hby at_294) (by decide) (by decide) ks) ?_
        exact J _ _ _ (own_R0 _ _ (894) (894) (by decide) (by decide) (by decide) (by decide) (by decide) (fun c q1 q2 => by unfold inS; omega))
      ·
        refine Dn.by (U' := T67.setTop (mkF m 269 #[.val (.int p0), .val (.int p1), .val (.long q2), .second, .val (.ref b1), .val (.ref b35), .val (.int (24 : Int32)), .unset, .unset, .unset, .unset, .unset, .unset, .unset, .unset] [(.ref b35)])) (fun _ ks => XS.aload X67.here hx rfl (hb hby at_267) rfl rfl ks) ?_
        refine Dn.by (U' := T67.setTop (mkF m 271 #[.val (.int p0), .val (.int p1), .val (.long q2), .second, .val (.ref b1), .val (.ref b35), .val (.int (24 : Int32)), .unset, .unset, .unset, .unset, .unset, .unset, .unset, .unset] [(.int (24 : Int32)), (.ref b35)])) (fun _ ks => XS.iload X67.here hx rfl (hb hby at_269) rfl ks) ?_
        refine Dn.by (U' := T67.setTop (mkF m 273 #[.val (.int p0), .val (.int p1), .val (.long q2), .second, .val (.ref b1), .val (.ref b35), .val (.int (24 : Int32)), .unset, .unset, .unset, .unset, .unset, .unset, .unset, .unset] [(.int (16 : Int32)), (.int (24 : Int32)), (.ref b35)])) (fun _ ks => XS.bipush X67.here hx rfl (hb hby at_271)  ks) ?_
        refine Dn.by (U' := T67.setTop (mkF m 274 #[.val (.int p0), .val (.int p1), .val (.long q2), .second, .val (.ref b1), .val (.ref b35), .val (.int (24 : Int32)), .unset, .unset, .unset, .unset, .unset, .unset, .unset, .unset] [(.int ((24 : Int32) - (16 : Int32))), (.ref b35)])) (fun _ ks => XS.isub X67.here hx rfl (hb hby at_273) rfl ks) ?_
        rw [show ((24 : Int32) - (16 : Int32)) = (8 : Int32) from by decide]
        obtain ⟨cl122, Ar122, q122, S122, M122, H122, G122⟩ := id V67b
        have in122 := inb_of (j := (8 : Int32)) S122 ⟨by decide, by decide⟩
        have at122 : cl122.slots[(8 : Int32).toNatClampNeg]? = some (.long (8191 : Int64)) := H122.at in122 rfl
        refine Dn.by (U' := T67.setTop (mkF m 275 #[.val (.int p0), .val (.int p1), .val (.long q2), .second, .val (.ref b1), .val (.ref b35), .val (.int (24 : Int32)), .unset, .unset, .unset, .unset, .unset, .unset, .unset, .unset] [(.long (8191 : Int64))])) (X67.laload hx (j := (8 : Int32)) (v := (.long (8191 : Int64))) (by rw [e67]; exact Ar122.1) (State.isArrayOf_alike hZ.alike Ar122.2.1) Ar122.2.2 in122 at122 (g := (mkF m 274 #[.val (.int p0), .val (.int p1), .val (.long q2), .second, .val (.ref b1), .val (.ref b35), .val (.int (24 : Int32)), .unset, .unset, .unset, .unset, .unset, .unset, .unset, .unset] [(.int (8 : Int32)), (.ref b35)])) rfl rfl (hb hby at_274)) ?_
        refine Dn.by (U' := T67.setTop (mkF m 276 #[.val (.int p0), .val (.int p1), .val (.long q2), .second, .val (.ref b1), .val (.ref b35), .val (.int (24 : Int32)), .unset, .unset, .unset, .unset, .unset, .unset, .unset, .unset] [(.long (1 : Int64)), (.long (8191 : Int64))])) (fun _ ks => XS.lconst X67.here hx rfl (hb hby at_275)  ks) ?_
        refine Dn.by (U' := T67.setTop (mkF m 277 #[.val (.int p0), .val (.int p1), .val (.long q2), .second, .val (.ref b1), .val (.ref b35), .val (.int (24 : Int32)), .unset, .unset, .unset, .unset, .unset, .unset, .unset, .unset] [(.long ((8191 : Int64) + (1 : Int64)))])) (fun _ ks => XS.ladd X67.here hx rfl (hb hby at_276) rfl ks) ?_
        refine Dn.by (U' := T67.setTop (mkF m 279 #[.val (.int p0), .val (.int p1), .val (.long q2), .second, .val (.ref b1), .val (.ref b35), .val (.int (24 : Int32)), .val (.long ((8191 : Int64) + (1 : Int64))), .second, .unset, .unset, .unset, .unset, .unset, .unset] [])) (fun _ ks => XS.lstore X67.here hx rfl (hb hby at_277) rfl (l' := #[.val (.int p0), .val (.int p1), .val (.long q2), .second, .val (.ref b1), .val (.ref b35), .val (.int (24 : Int32)), .val (.long ((8191 : Int64) + (1 : Int64))), .second, .unset, .unset, .unset, .unset, .unset, .unset]) rfl ks) ?_
        refine Dn.by (U' := T67.setTop (mkF m 281 #[.val (.int p0), .val (.int p1), .val (.long q2), .second, .val (.ref b1), .val (.ref b35), .val (.int (24 : Int32)), .val (.long ((8191 : Int64) + (1 : Int64))), .second, .unset, .unset, .unset, .unset, .unset, .unset] [(.ref b1)])) (fun _ ks => XS.aload X67.here hx rfl (hb hby at_279) rfl rfl ks) ?_
        refine Dn.by (U' := T67.setTop (mkF m 283 #[.val (.int p0), .val (.int p1), .val (.long q2), .second, .val (.ref b1), .val (.ref b35), .val (.int (24 : Int32)), .val (.long ((8191 : Int64) + (1 : Int64))), .second, .unset, .unset, .unset, .unset, .unset, .unset] [(.int (24 : Int32)), (.ref b1)])) (fun _ ks => XS.iload X67.here hx rfl (hb hby at_281) rfl ks) ?_
        refine Dn.by (U' := T67.setTop (mkF m 285 #[.val (.int p0), .val (.int p1), .val (.long q2), .second, .val (.ref b1), .val (.ref b35), .val (.int (24 : Int32)), .val (.long ((8191 : Int64) + (1 : Int64))), .second, .unset, .unset, .unset, .unset, .unset, .unset] [(.int (15 : Int32)), (.int (24 : Int32)), (.ref b1)])) (fun _ ks => XS.bipush X67.here hx rfl (hb hby at_283)  ks) ?_
        refine Dn.by (U' := T67.setTop (mkF m 286 #[.val (.int p0), .val (.int p1), .val (.long q2), .second, .val (.ref b1), .val (.ref b35), .val (.int (24 : Int32)), .val (.long ((8191 : Int64) + (1 : Int64))), .second, .unset, .unset, .unset, .unset, .unset, .unset] [(.int ((24 : Int32) - (15 : Int32))), (.ref b1)])) (fun _ ks => XS.isub X67.here hx rfl (hb hby at_285) rfl ks) ?_
        rw [show ((24 : Int32) - (15 : Int32)) = (9 : Int32) from by decide]
        obtain ⟨cl123, Ar123, q123, S123, M123, H123, G123⟩ := id (((((((((((((((((V33b.ext E35).other W37 ne_b1_b35).other W39 ne_b1_b35).other W41 ne_b1_b35).other W43 ne_b1_b35).other W45 ne_b1_b35).other W47 ne_b1_b35).other W49 ne_b1_b35).other W51 ne_b1_b35).other W53 ne_b1_b35).other W55 ne_b1_b35).other W57 ne_b1_b35).other W59 ne_b1_b35).other W61 ne_b1_b35).other W63 ne_b1_b35).other W65 ne_b1_b35).other W67 ne_b1_b35)
        have in123 := inb_of (j := (9 : Int32)) S123 ⟨by decide, by decide⟩
        have at123 : cl123.slots[(9 : Int32).toNatClampNeg]? = some (.long (8204 : Int64)) := H123.at in123 rfl
        refine Dn.by (U' := T67.setTop (mkF m 287 #[.val (.int p0), .val (.int p1), .val (.long q2), .second, .val (.ref b1), .val (.ref b35), .val (.int (24 : Int32)), .val (.long ((8191 : Int64) + (1 : Int64))), .second, .unset, .unset, .unset, .unset, .unset, .unset] [(.long (8204 : Int64))])) (X67.laload hx (j := (9 : Int32)) (v := (.long (8204 : Int64))) (by rw [e67]; exact Ar123.1) (State.isArrayOf_alike hZ.alike Ar123.2.1) Ar123.2.2 in123 at123 (g := (mkF m 286 #[.val (.int p0), .val (.int p1), .val (.long q2), .second, .val (.ref b1), .val (.ref b35), .val (.int (24 : Int32)), .val (.long ((8191 : Int64) + (1 : Int64))), .second, .unset, .unset, .unset, .unset, .unset, .unset] [(.int (9 : Int32)), (.ref b1)])) rfl rfl (hb hby at_286)) ?_
        refine Dn.by (U' := T67.setTop (mkF m 288 #[.val (.int p0), .val (.int p1), .val (.long q2), .second, .val (.ref b1), .val (.ref b35), .val (.int (24 : Int32)), .val (.long ((8191 : Int64) + (1 : Int64))), .second, .unset, .unset, .unset, .unset, .unset, .unset] [(.long (1 : Int64)), (.long (8204 : Int64))])) (fun _ ks => XS.lconst X67.here hx rfl (hb hby at_287)  ks) ?_
        refine Dn.by (U' := T67.setTop (mkF m 289 #[.val (.int p0), .val (.int p1), .val (.long q2), .second, .val (.ref b1), .val (.ref b35), .val (.int (24 : Int32)), .val (.long ((8191 : Int64) + (1 : Int64))), .second, .unset, .unset, .unset, .unset, .unset, .unset] [(.long ((8204 : Int64) - (1 : Int64)))])) (fun _ ks => XS.lsub X67.here hx rfl (hb hby at_288) rfl ks) ?_
        refine Dn.by (U' := T67.setTop (mkF m 291 #[.val (.int p0), .val (.int p1), .val (.long q2), .second, .val (.ref b1), .val (.ref b35), .val (.int (24 : Int32)), .val (.long ((8191 : Int64) + (1 : Int64))), .second, .val (.long ((8204 : Int64) - (1 : Int64))), .second, .unset, .unset, .unset, .unset] [])) (fun _ ks => XS.lstore X67.here hx rfl (hb hby at_289) rfl (l' := #[.val (.int p0), .val (.int p1), .val (.long q2), .second, .val (.ref b1), .val (.ref b35), .val (.int (24 : Int32)), .val (.long ((8191 : Int64) + (1 : Int64))), .second, .val (.long ((8204 : Int64) - (1 : Int64))), .second, .unset, .unset, .unset, .unset]) rfl ks) ?_
        refine Dn.by (U' := T67.setTop (mkF m 292 #[.val (.int p0), .val (.int p1), .val (.long q2), .second, .val (.ref b1), .val (.ref b35), .val (.int (24 : Int32)), .val (.long ((8191 : Int64) + (1 : Int64))), .second, .val (.long ((8204 : Int64) - (1 : Int64))), .second, .unset, .unset, .unset, .unset] [(.int (0 : Int32))])) (fun _ ks => XS.iconst X67.here hx rfl (hb hby at_291)  ks) ?_
        refine Dn.by (U' := T67.setTop (mkF m 294 #[.val (.int p0), .val (.int p1), .val (.long q2), .second, .val (.ref b1), .val (.ref b35), .val (.int (24 : Int32)), .val (.long ((8191 : Int64) + (1 : Int64))), .second, .val (.long ((8204 : Int64) - (1 : Int64))), .second, .val (.int (0 : Int32)), .unset, .unset, .unset] [])) (fun _ ks => XS.istore X67.here hx rfl (hb hby at_292) rfl (l' := #[.val (.int p0), .val (.int p1), .val (.long q2), .second, .val (.ref b1), .val (.ref b35), .val (.int (24 : Int32)), .val (.long ((8191 : Int64) + (1 : Int64))), .second, .val (.long ((8204 : Int64) - (1 : Int64))), .second, .val (.int (0 : Int32)), .unset, .unset, .unset]) rfl ks) ?_
        refine Dn.by (U' := T67.setTop (mkF m 333 #[.val (.int p0), .val (.int p1), .val (.long q2), .second, .val (.ref b1), .val (.ref b35), .val (.int (24 : Int32)), .val (.long ((8191 : Int64) + (1 : Int64))), .second, .val (.long ((8204 : Int64) - (1 : Int64))), .second, .val (.int (0 : Int32)), .unset, .unset, .unset] [])) (fun _ ks => XS.goto X67.here hx rfl (pc0 := 294) (pc' := 333) rfl (hb hby at_294) (by decide) (by decide) ks) ?_
        exact J _ _ _ (own_R0 _ _ (8192) (8203) (by decide) (by decide) (by decide) (by decide) (by decide) (fun c q1 q2 => by unfold inS; omega))
      ·
        refine Dn.by (U' := T67.setTop (mkF m 269 #[.val (.int p0), .val (.int p1), .val (.long q2), .second, .val (.ref b1), .val (.ref b35), .val (.int (25 : Int32)), .unset, .unset, .unset, .unset, .unset, .unset, .unset, .unset] [(.ref b35)])) (fun _ ks => XS.aload X67.here hx rfl (hb hby at_267) rfl rfl ks) ?_
        refine Dn.by (U' := T67.setTop (mkF m 271 #[.val (.int p0), .val (.int p1), .val (.long q2), .second, .val (.ref b1), .val (.ref b35), .val (.int (25 : Int32)), .unset, .unset, .unset, .unset, .unset, .unset, .unset, .unset] [(.int (25 : Int32)), (.ref b35)])) (fun _ ks => XS.iload X67.here hx rfl (hb hby at_269) rfl ks) ?_
        refine Dn.by (U' := T67.setTop (mkF m 273 #[.val (.int p0), .val (.int p1), .val (.long q2), .second, .val (.ref b1), .val (.ref b35), .val (.int (25 : Int32)), .unset, .unset, .unset, .unset, .unset, .unset, .unset, .unset] [(.int (16 : Int32)), (.int (25 : Int32)), (.ref b35)])) (fun _ ks => XS.bipush X67.here hx rfl (hb hby at_271)  ks) ?_
        refine Dn.by (U' := T67.setTop (mkF m 274 #[.val (.int p0), .val (.int p1), .val (.long q2), .second, .val (.ref b1), .val (.ref b35), .val (.int (25 : Int32)), .unset, .unset, .unset, .unset, .unset, .unset, .unset, .unset] [(.int ((25 : Int32) - (16 : Int32))), (.ref b35)])) (fun _ ks => XS.isub X67.here hx rfl (hb hby at_273) rfl ks) ?_
        rw [show ((25 : Int32) - (16 : Int32)) = (9 : Int32) from by decide]
        obtain ⟨cl124, Ar124, q124, S124, M124, H124, G124⟩ := id V67b
        have in124 := inb_of (j := (9 : Int32)) S124 ⟨by decide, by decide⟩
        have at124 : cl124.slots[(9 : Int32).toNatClampNeg]? = some (.long (8205 : Int64)) := H124.at in124 rfl
        refine Dn.by (U' := T67.setTop (mkF m 275 #[.val (.int p0), .val (.int p1), .val (.long q2), .second, .val (.ref b1), .val (.ref b35), .val (.int (25 : Int32)), .unset, .unset, .unset, .unset, .unset, .unset, .unset, .unset] [(.long (8205 : Int64))])) (X67.laload hx (j := (9 : Int32)) (v := (.long (8205 : Int64))) (by rw [e67]; exact Ar124.1) (State.isArrayOf_alike hZ.alike Ar124.2.1) Ar124.2.2 in124 at124 (g := (mkF m 274 #[.val (.int p0), .val (.int p1), .val (.long q2), .second, .val (.ref b1), .val (.ref b35), .val (.int (25 : Int32)), .unset, .unset, .unset, .unset, .unset, .unset, .unset, .unset] [(.int (9 : Int32)), (.ref b35)])) rfl rfl (hb hby at_274)) ?_
        refine Dn.by (U' := T67.setTop (mkF m 276 #[.val (.int p0), .val (.int p1), .val (.long q2), .second, .val (.ref b1), .val (.ref b35), .val (.int (25 : Int32)), .unset, .unset, .unset, .unset, .unset, .unset, .unset, .unset] [(.long (1 : Int64)), (.long (8205 : Int64))])) (fun _ ks => XS.lconst X67.here hx rfl (hb hby at_275)  ks) ?_
        refine Dn.by (U' := T67.setTop (mkF m 277 #[.val (.int p0), .val (.int p1), .val (.long q2), .second, .val (.ref b1), .val (.ref b35), .val (.int (25 : Int32)), .unset, .unset, .unset, .unset, .unset, .unset, .unset, .unset] [(.long ((8205 : Int64) + (1 : Int64)))])) (fun _ ks => XS.ladd X67.here hx rfl (hb hby at_276) rfl ks) ?_
        refine Dn.by (U' := T67.setTop (mkF m 279 #[.val (.int p0), .val (.int p1), .val (.long q2), .second, .val (.ref b1), .val (.ref b35), .val (.int (25 : Int32)), .val (.long ((8205 : Int64) + (1 : Int64))), .second, .unset, .unset, .unset, .unset, .unset, .unset] [])) (fun _ ks => XS.lstore X67.here hx rfl (hb hby at_277) rfl (l' := #[.val (.int p0), .val (.int p1), .val (.long q2), .second, .val (.ref b1), .val (.ref b35), .val (.int (25 : Int32)), .val (.long ((8205 : Int64) + (1 : Int64))), .second, .unset, .unset, .unset, .unset, .unset, .unset]) rfl ks) ?_
        refine Dn.by (U' := T67.setTop (mkF m 281 #[.val (.int p0), .val (.int p1), .val (.long q2), .second, .val (.ref b1), .val (.ref b35), .val (.int (25 : Int32)), .val (.long ((8205 : Int64) + (1 : Int64))), .second, .unset, .unset, .unset, .unset, .unset, .unset] [(.ref b1)])) (fun _ ks => XS.aload X67.here hx rfl (hb hby at_279) rfl rfl ks) ?_
        refine Dn.by (U' := T67.setTop (mkF m 283 #[.val (.int p0), .val (.int p1), .val (.long q2), .second, .val (.ref b1), .val (.ref b35), .val (.int (25 : Int32)), .val (.long ((8205 : Int64) + (1 : Int64))), .second, .unset, .unset, .unset, .unset, .unset, .unset] [(.int (25 : Int32)), (.ref b1)])) (fun _ ks => XS.iload X67.here hx rfl (hb hby at_281) rfl ks) ?_
        refine Dn.by (U' := T67.setTop (mkF m 285 #[.val (.int p0), .val (.int p1), .val (.long q2), .second, .val (.ref b1), .val (.ref b35), .val (.int (25 : Int32)), .val (.long ((8205 : Int64) + (1 : Int64))), .second, .unset, .unset, .unset, .unset, .unset, .unset] [(.int (15 : Int32)), (.int (25 : Int32)), (.ref b1)])) (fun _ ks => XS.bipush X67.here hx rfl (hb hby at_283)  ks) ?_
        refine Dn.by (U' := T67.setTop (mkF m 286 #[.val (.int p0), .val (.int p1), .val (.long q2), .second, .val (.ref b1), .val (.ref b35), .val (.int (25 : Int32)), .val (.long ((8205 : Int64) + (1 : Int64))), .second, .unset, .unset, .unset, .unset, .unset, .unset] [(.int ((25 : Int32) - (15 : Int32))), (.ref b1)])) (fun _ ks => XS.isub X67.here hx rfl (hb hby at_285) rfl ks) ?_
        rw [show ((25 : Int32) - (15 : Int32)) = (10 : Int32) from by decide]
        obtain ⟨cl125, Ar125, q125, S125, M125, H125, G125⟩ := id (((((((((((((((((V33b.ext E35).other W37 ne_b1_b35).other W39 ne_b1_b35).other W41 ne_b1_b35).other W43 ne_b1_b35).other W45 ne_b1_b35).other W47 ne_b1_b35).other W49 ne_b1_b35).other W51 ne_b1_b35).other W53 ne_b1_b35).other W55 ne_b1_b35).other W57 ne_b1_b35).other W59 ne_b1_b35).other W61 ne_b1_b35).other W63 ne_b1_b35).other W65 ne_b1_b35).other W67 ne_b1_b35)
        have in125 := inb_of (j := (10 : Int32)) S125 ⟨by decide, by decide⟩
        have at125 : cl125.slots[(10 : Int32).toNatClampNeg]? = some (.long (8304 : Int64)) := H125.at in125 rfl
        refine Dn.by (U' := T67.setTop (mkF m 287 #[.val (.int p0), .val (.int p1), .val (.long q2), .second, .val (.ref b1), .val (.ref b35), .val (.int (25 : Int32)), .val (.long ((8205 : Int64) + (1 : Int64))), .second, .unset, .unset, .unset, .unset, .unset, .unset] [(.long (8304 : Int64))])) (X67.laload hx (j := (10 : Int32)) (v := (.long (8304 : Int64))) (by rw [e67]; exact Ar125.1) (State.isArrayOf_alike hZ.alike Ar125.2.1) Ar125.2.2 in125 at125 (g := (mkF m 286 #[.val (.int p0), .val (.int p1), .val (.long q2), .second, .val (.ref b1), .val (.ref b35), .val (.int (25 : Int32)), .val (.long ((8205 : Int64) + (1 : Int64))), .second, .unset, .unset, .unset, .unset, .unset, .unset] [(.int (10 : Int32)), (.ref b1)])) rfl rfl (hb hby at_286)) ?_
        refine Dn.by (U' := T67.setTop (mkF m 288 #[.val (.int p0), .val (.int p1), .val (.long q2), .second, .val (.ref b1), .val (.ref b35), .val (.int (25 : Int32)), .val (.long ((8205 : Int64) + (1 : Int64))), .second, .unset, .unset, .unset, .unset, .unset, .unset] [(.long (1 : Int64)), (.long (8304 : Int64))])) (fun _ ks => XS.lconst X67.here hx rfl (hb hby at_287)  ks) ?_
        refine Dn.by (U' := T67.setTop (mkF m 289 #[.val (.int p0), .val (.int p1), .val (.long q2), .second, .val (.ref b1), .val (.ref b35), .val (.int (25 : Int32)), .val (.long ((8205 : Int64) + (1 : Int64))), .second, .unset, .unset, .unset, .unset, .unset, .unset] [(.long ((8304 : Int64) - (1 : Int64)))])) (fun _ ks => XS.lsub X67.here hx rfl (hb hby at_288) rfl ks) ?_
        refine Dn.by (U' := T67.setTop (mkF m 291 #[.val (.int p0), .val (.int p1), .val (.long q2), .second, .val (.ref b1), .val (.ref b35), .val (.int (25 : Int32)), .val (.long ((8205 : Int64) + (1 : Int64))), .second, .val (.long ((8304 : Int64) - (1 : Int64))), .second, .unset, .unset, .unset, .unset] [])) (fun _ ks => XS.lstore X67.here hx rfl (hb hby at_289) rfl (l' := #[.val (.int p0), .val (.int p1), .val (.long q2), .second, .val (.ref b1), .val (.ref b35), .val (.int (25 : Int32)), .val (.long ((8205 : Int64) + (1 : Int64))), .second, .val (.long ((8304 : Int64) - (1 : Int64))), .second, .unset, .unset, .unset, .unset]) rfl ks) ?_
        refine Dn.by (U' := T67.setTop (mkF m 292 #[.val (.int p0), .val (.int p1), .val (.long q2), .second, .val (.ref b1), .val (.ref b35), .val (.int (25 : Int32)), .val (.long ((8205 : Int64) + (1 : Int64))), .second, .val (.long ((8304 : Int64) - (1 : Int64))), .second, .unset, .unset, .unset, .unset] [(.int (0 : Int32))])) (fun _ ks => XS.iconst X67.here hx rfl (hb hby at_291)  ks) ?_
        refine Dn.by (U' := T67.setTop (mkF m 294 #[.val (.int p0), .val (.int p1), .val (.long q2), .second, .val (.ref b1), .val (.ref b35), .val (.int (25 : Int32)), .val (.long ((8205 : Int64) + (1 : Int64))), .second, .val (.long ((8304 : Int64) - (1 : Int64))), .second, .val (.int (0 : Int32)), .unset, .unset, .unset] [])) (fun _ ks => XS.istore X67.here hx rfl (hb hby at_292) rfl (l' := #[.val (.int p0), .val (.int p1), .val (.long q2), .second, .val (.ref b1), .val (.ref b35), .val (.int (25 : Int32)), .val (.long ((8205 : Int64) + (1 : Int64))), .second, .val (.long ((8304 : Int64) - (1 : Int64))), .second, .val (.int (0 : Int32)), .unset, .unset, .unset]) rfl ks) ?_
        refine Dn.by (U' := T67.setTop (mkF m 333 #[.val (.int p0), .val (.int p1), .val (.long q2), .second, .val (.ref b1), .val (.ref b35), .val (.int (25 : Int32)), .val (.long ((8205 : Int64) + (1 : Int64))), .second, .val (.long ((8304 : Int64) - (1 : Int64))), .second, .val (.int (0 : Int32)), .unset, .unset, .unset] [])) (fun _ ks => XS.goto X67.here hx rfl (pc0 := 294) (pc' := 333) rfl (hb hby at_294) (by decide) (by decide) ks) ?_
        exact J _ _ _ (own_R0 _ _ (8206) (8303) (by decide) (by decide) (by decide) (by decide) (by decide) (fun c q1 q2 => by unfold inS; omega))
      ·
        refine Dn.by (U' := T67.setTop (mkF m 269 #[.val (.int p0), .val (.int p1), .val (.long q2), .second, .val (.ref b1), .val (.ref b35), .val (.int (26 : Int32)), .unset, .unset, .unset, .unset, .unset, .unset, .unset, .unset] [(.ref b35)])) (fun _ ks => XS.aload X67.here hx rfl (hb hby at_267) rfl rfl ks) ?_
        refine Dn.by (U' := T67.setTop (mkF m 271 #[.val (.int p0), .val (.int p1), .val (.long q2), .second, .val (.ref b1), .val (.ref b35), .val (.int (26 : Int32)), .unset, .unset, .unset, .unset, .unset, .unset, .unset, .unset] [(.int (26 : Int32)), (.ref b35)])) (fun _ ks => XS.iload X67.here hx rfl (hb hby at_269) rfl ks) ?_
        refine Dn.by (U' := T67.setTop (mkF m 273 #[.val (.int p0), .val (.int p1), .val (.long q2), .second, .val (.ref b1), .val (.ref b35), .val (.int (26 : Int32)), .unset, .unset, .unset, .unset, .unset, .unset, .unset, .unset] [(.int (16 : Int32)), (.int (26 : Int32)), (.ref b35)])) (fun _ ks => XS.bipush X67.here hx rfl (hb hby at_271)  ks) ?_
        refine Dn.by (U' := T67.setTop (mkF m 274 #[.val (.int p0), .val (.int p1), .val (.long q2), .second, .val (.ref b1), .val (.ref b35), .val (.int (26 : Int32)), .unset, .unset, .unset, .unset, .unset, .unset, .unset, .unset] [(.int ((26 : Int32) - (16 : Int32))), (.ref b35)])) (fun _ ks => XS.isub X67.here hx rfl (hb hby at_273) rfl ks) ?_
        rw [show ((26 : Int32) - (16 : Int32)) = (10 : Int32) from by decide]
        obtain ⟨cl126, Ar126, q126, S126, M126, H126, G126⟩ := id V67b
        have in126 := inb_of (j := (10 : Int32)) S126 ⟨by decide, by decide⟩
        have at126 : cl126.slots[(10 : Int32).toNatClampNeg]? = some (.long (8591 : Int64)) := H126.at in126 rfl
        refine Dn.by (U' := T67.setTop (mkF m 275 #[.val (.int p0), .val (.int p1), .val (.long q2), .second, .val (.ref b1), .val (.ref b35), .val (.int (26 : Int32)), .unset, .unset, .unset, .unset, .unset, .unset, .unset, .unset] [(.long (8591 : Int64))])) (X67.laload hx (j := (10 : Int32)) (v := (.long (8591 : Int64))) (by rw [e67]; exact Ar126.1) (State.isArrayOf_alike hZ.alike Ar126.2.1) Ar126.2.2 in126 at126 (g := (mkF m 274 #[.val (.int p0), .val (.int p1), .val (.long q2), .second, .val (.ref b1), .val (.ref b35), .val (.int (26 : Int32)), .unset, .unset, .unset, .unset, .unset, .unset, .unset, .unset] [(.int (10 : Int32)), (.ref b35)])) rfl rfl (hb hby at_274)) ?_
        refine Dn.by (U' := T67.setTop (mkF m 276 #[.val (.int p0), .val (.int p1), .val (.long q2), .second, .val (.ref b1), .val (.ref b35), .val (.int (26 : Int32)), .unset, .unset, .unset, .unset, .unset, .unset, .unset, .unset] [(.long (1 : Int64)), (.long (8591 : Int64))])) (fun _ ks => XS.lconst X67.here hx rfl (hb hby at_275)  ks) ?_
        refine Dn.by (U' := T67.setTop (mkF m 277 #[.val (.int p0), .val (.int p1), .val (.long q2), .second, .val (.ref b1), .val (.ref b35), .val (.int (26 : Int32)), .unset, .unset, .unset, .unset, .unset, .unset, .unset, .unset] [(.long ((8591 : Int64) + (1 : Int64)))])) (fun _ ks => XS.ladd X67.here hx rfl (hb hby at_276) rfl ks) ?_
        refine Dn.by (U' := T67.setTop (mkF m 279 #[.val (.int p0), .val (.int p1), .val (.long q2), .second, .val (.ref b1), .val (.ref b35), .val (.int (26 : Int32)), .val (.long ((8591 : Int64) + (1 : Int64))), .second, .unset, .unset, .unset, .unset, .unset, .unset] [])) (fun _ ks => XS.lstore X67.here hx rfl (hb hby at_277) rfl (l' := #[.val (.int p0), .val (.int p1), .val (.long q2), .second, .val (.ref b1), .val (.ref b35), .val (.int (26 : Int32)), .val (.long ((8591 : Int64) + (1 : Int64))), .second, .unset, .unset, .unset, .unset, .unset, .unset]) rfl ks) ?_
        refine Dn.by (U' := T67.setTop (mkF m 281 #[.val (.int p0), .val (.int p1), .val (.long q2), .second, .val (.ref b1), .val (.ref b35), .val (.int (26 : Int32)), .val (.long ((8591 : Int64) + (1 : Int64))), .second, .unset, .unset, .unset, .unset, .unset, .unset] [(.ref b1)])) (fun _ ks => XS.aload X67.here hx rfl (hb hby at_279) rfl rfl ks) ?_
        refine Dn.by (U' := T67.setTop (mkF m 283 #[.val (.int p0), .val (.int p1), .val (.long q2), .second, .val (.ref b1), .val (.ref b35), .val (.int (26 : Int32)), .val (.long ((8591 : Int64) + (1 : Int64))), .second, .unset, .unset, .unset, .unset, .unset, .unset] [(.int (26 : Int32)), (.ref b1)])) (fun _ ks => XS.iload X67.here hx rfl (hb hby at_281) rfl ks) ?_
        refine Dn.by (U' := T67.setTop (mkF m 285 #[.val (.int p0), .val (.int p1), .val (.long q2), .second, .val (.ref b1), .val (.ref b35), .val (.int (26 : Int32)), .val (.long ((8591 : Int64) + (1 : Int64))), .second, .unset, .unset, .unset, .unset, .unset, .unset] [(.int (15 : Int32)), (.int (26 : Int32)), (.ref b1)])) (fun _ ks => XS.bipush X67.here hx rfl (hb hby at_283)  ks) ?_
        refine Dn.by (U' := T67.setTop (mkF m 286 #[.val (.int p0), .val (.int p1), .val (.long q2), .second, .val (.ref b1), .val (.ref b35), .val (.int (26 : Int32)), .val (.long ((8591 : Int64) + (1 : Int64))), .second, .unset, .unset, .unset, .unset, .unset, .unset] [(.int ((26 : Int32) - (15 : Int32))), (.ref b1)])) (fun _ ks => XS.isub X67.here hx rfl (hb hby at_285) rfl ks) ?_
        rw [show ((26 : Int32) - (15 : Int32)) = (11 : Int32) from by decide]
        obtain ⟨cl127, Ar127, q127, S127, M127, H127, G127⟩ := id (((((((((((((((((V33b.ext E35).other W37 ne_b1_b35).other W39 ne_b1_b35).other W41 ne_b1_b35).other W43 ne_b1_b35).other W45 ne_b1_b35).other W47 ne_b1_b35).other W49 ne_b1_b35).other W51 ne_b1_b35).other W53 ne_b1_b35).other W55 ne_b1_b35).other W57 ne_b1_b35).other W59 ne_b1_b35).other W61 ne_b1_b35).other W63 ne_b1_b35).other W65 ne_b1_b35).other W67 ne_b1_b35)
        have in127 := inb_of (j := (11 : Int32)) S127 ⟨by decide, by decide⟩
        have at127 : cl127.slots[(11 : Int32).toNatClampNeg]? = some (.long (11264 : Int64)) := H127.at in127 rfl
        refine Dn.by (U' := T67.setTop (mkF m 287 #[.val (.int p0), .val (.int p1), .val (.long q2), .second, .val (.ref b1), .val (.ref b35), .val (.int (26 : Int32)), .val (.long ((8591 : Int64) + (1 : Int64))), .second, .unset, .unset, .unset, .unset, .unset, .unset] [(.long (11264 : Int64))])) (X67.laload hx (j := (11 : Int32)) (v := (.long (11264 : Int64))) (by rw [e67]; exact Ar127.1) (State.isArrayOf_alike hZ.alike Ar127.2.1) Ar127.2.2 in127 at127 (g := (mkF m 286 #[.val (.int p0), .val (.int p1), .val (.long q2), .second, .val (.ref b1), .val (.ref b35), .val (.int (26 : Int32)), .val (.long ((8591 : Int64) + (1 : Int64))), .second, .unset, .unset, .unset, .unset, .unset, .unset] [(.int (11 : Int32)), (.ref b1)])) rfl rfl (hb hby at_286)) ?_
        refine Dn.by (U' := T67.setTop (mkF m 288 #[.val (.int p0), .val (.int p1), .val (.long q2), .second, .val (.ref b1), .val (.ref b35), .val (.int (26 : Int32)), .val (.long ((8591 : Int64) + (1 : Int64))), .second, .unset, .unset, .unset, .unset, .unset, .unset] [(.long (1 : Int64)), (.long (11264 : Int64))])) (fun _ ks => XS.lconst X67.here hx rfl (hb hby at_287)  ks) ?_
        refine Dn.by (U' := T67.setTop (mkF m 289 #[.val (.int p0), .val (.int p1), .val (.long q2), .second, .val (.ref b1), .val (.ref b35), .val (.int (26 : Int32)), .val (.long ((8591 : Int64) + (1 : Int64))), .second, .unset, .unset, .unset, .unset, .unset, .unset] [(.long ((11264 : Int64) - (1 : Int64)))])) (fun _ ks => XS.lsub X67.here hx rfl (hb hby at_288) rfl ks) ?_
        refine Dn.by (U' := T67.setTop (mkF m 291 #[.val (.int p0), .val (.int p1), .val (.long q2), .second, .val (.ref b1), .val (.ref b35), .val (.int (26 : Int32)), .val (.long ((8591 : Int64) + (1 : Int64))), .second, .val (.long ((11264 : Int64) - (1 : Int64))), .second, .unset, .unset, .unset, .unset] [])) (fun _ ks => XS.lstore X67.here hx rfl (hb hby at_289) rfl (l' := #[.val (.int p0), .val (.int p1), .val (.long q2), .second, .val (.ref b1), .val (.ref b35), .val (.int (26 : Int32)), .val (.long ((8591 : Int64) + (1 : Int64))), .second, .val (.long ((11264 : Int64) - (1 : Int64))), .second, .unset, .unset, .unset, .unset]) rfl ks) ?_
        refine Dn.by (U' := T67.setTop (mkF m 292 #[.val (.int p0), .val (.int p1), .val (.long q2), .second, .val (.ref b1), .val (.ref b35), .val (.int (26 : Int32)), .val (.long ((8591 : Int64) + (1 : Int64))), .second, .val (.long ((11264 : Int64) - (1 : Int64))), .second, .unset, .unset, .unset, .unset] [(.int (0 : Int32))])) (fun _ ks => XS.iconst X67.here hx rfl (hb hby at_291)  ks) ?_
        refine Dn.by (U' := T67.setTop (mkF m 294 #[.val (.int p0), .val (.int p1), .val (.long q2), .second, .val (.ref b1), .val (.ref b35), .val (.int (26 : Int32)), .val (.long ((8591 : Int64) + (1 : Int64))), .second, .val (.long ((11264 : Int64) - (1 : Int64))), .second, .val (.int (0 : Int32)), .unset, .unset, .unset] [])) (fun _ ks => XS.istore X67.here hx rfl (hb hby at_292) rfl (l' := #[.val (.int p0), .val (.int p1), .val (.long q2), .second, .val (.ref b1), .val (.ref b35), .val (.int (26 : Int32)), .val (.long ((8591 : Int64) + (1 : Int64))), .second, .val (.long ((11264 : Int64) - (1 : Int64))), .second, .val (.int (0 : Int32)), .unset, .unset, .unset]) rfl ks) ?_
        refine Dn.by (U' := T67.setTop (mkF m 333 #[.val (.int p0), .val (.int p1), .val (.long q2), .second, .val (.ref b1), .val (.ref b35), .val (.int (26 : Int32)), .val (.long ((8591 : Int64) + (1 : Int64))), .second, .val (.long ((11264 : Int64) - (1 : Int64))), .second, .val (.int (0 : Int32)), .unset, .unset, .unset] [])) (fun _ ks => XS.goto X67.here hx rfl (pc0 := 294) (pc' := 333) rfl (hb hby at_294) (by decide) (by decide) ks) ?_
        exact J _ _ _ (own_R0 _ _ (8592) (11263) (by decide) (by decide) (by decide) (by decide) (by decide) (fun c q1 q2 => by unfold inS; omega))
      ·
        refine Dn.by (U' := T67.setTop (mkF m 269 #[.val (.int p0), .val (.int p1), .val (.long q2), .second, .val (.ref b1), .val (.ref b35), .val (.int (27 : Int32)), .unset, .unset, .unset, .unset, .unset, .unset, .unset, .unset] [(.ref b35)])) (fun _ ks => XS.aload X67.here hx rfl (hb hby at_267) rfl rfl ks) ?_
        refine Dn.by (U' := T67.setTop (mkF m 271 #[.val (.int p0), .val (.int p1), .val (.long q2), .second, .val (.ref b1), .val (.ref b35), .val (.int (27 : Int32)), .unset, .unset, .unset, .unset, .unset, .unset, .unset, .unset] [(.int (27 : Int32)), (.ref b35)])) (fun _ ks => XS.iload X67.here hx rfl (hb hby at_269) rfl ks) ?_
        refine Dn.by (U' := T67.setTop (mkF m 273 #[.val (.int p0), .val (.int p1), .val (.long q2), .second, .val (.ref b1), .val (.ref b35), .val (.int (27 : Int32)), .unset, .unset, .unset, .unset, .unset, .unset, .unset, .unset] [(.int (16 : Int32)), (.int (27 : Int32)), (.ref b35)])) (fun _ ks => XS.bipush X67.here hx rfl (hb hby at_271)  ks) ?_
        refine Dn.by (U' := T67.setTop (mkF m 274 #[.val (.int p0), .val (.int p1), .val (.long q2), .second, .val (.ref b1), .val (.ref b35), .val (.int (27 : Int32)), .unset, .unset, .unset, .unset, .unset, .unset, .unset, .unset] [(.int ((27 : Int32) - (16 : Int32))), (.ref b35)])) (fun _ ks => XS.isub X67.here hx rfl (hb hby at_273) rfl ks) ?_
        rw [show ((27 : Int32) - (16 : Int32)) = (11 : Int32) from by decide]
        obtain ⟨cl128, Ar128, q128, S128, M128, H128, G128⟩ := id V67b
        have in128 := inb_of (j := (11 : Int32)) S128 ⟨by decide, by decide⟩
        have at128 : cl128.slots[(11 : Int32).toNatClampNeg]? = some (.long (12271 : Int64)) := H128.at in128 rfl
        refine Dn.by (U' := T67.setTop (mkF m 275 #[.val (.int p0), .val (.int p1), .val (.long q2), .second, .val (.ref b1), .val (.ref b35), .val (.int (27 : Int32)), .unset, .unset, .unset, .unset, .unset, .unset, .unset, .unset] [(.long (12271 : Int64))])) (X67.laload hx (j := (11 : Int32)) (v := (.long (12271 : Int64))) (by rw [e67]; exact Ar128.1) (State.isArrayOf_alike hZ.alike Ar128.2.1) Ar128.2.2 in128 at128 (g := (mkF m 274 #[.val (.int p0), .val (.int p1), .val (.long q2), .second, .val (.ref b1), .val (.ref b35), .val (.int (27 : Int32)), .unset, .unset, .unset, .unset, .unset, .unset, .unset, .unset] [(.int (11 : Int32)), (.ref b35)])) rfl rfl (hb hby at_274)) ?_
        refine Dn.by (U' := T67.setTop (mkF m 276 #[.val (.int p0), .val (.int p1), .val (.long q2), .second, .val (.ref b1), .val (.ref b35), .val (.int (27 : Int32)), .unset, .unset, .unset, .unset, .unset, .unset, .unset, .unset] [(.long (1 : Int64)), (.long (12271 : Int64))])) (fun _ ks => XS.lconst X67.here hx rfl (hb hby at_275)  ks) ?_
        refine Dn.by (U' := T67.setTop (mkF m 277 #[.val (.int p0), .val (.int p1), .val (.long q2), .second, .val (.ref b1), .val (.ref b35), .val (.int (27 : Int32)), .unset, .unset, .unset, .unset, .unset, .unset, .unset, .unset] [(.long ((12271 : Int64) + (1 : Int64)))])) (fun _ ks => XS.ladd X67.here hx rfl (hb hby at_276) rfl ks) ?_
        refine Dn.by (U' := T67.setTop (mkF m 279 #[.val (.int p0), .val (.int p1), .val (.long q2), .second, .val (.ref b1), .val (.ref b35), .val (.int (27 : Int32)), .val (.long ((12271 : Int64) + (1 : Int64))), .second, .unset, .unset, .unset, .unset, .unset, .unset] [])) (fun _ ks => XS.lstore X67.here hx rfl (hb hby at_277) rfl (l' := #[.val (.int p0), .val (.int p1), .val (.long q2), .second, .val (.ref b1), .val (.ref b35), .val (.int (27 : Int32)), .val (.long ((12271 : Int64) + (1 : Int64))), .second, .unset, .unset, .unset, .unset, .unset, .unset]) rfl ks) ?_
        refine Dn.by (U' := T67.setTop (mkF m 281 #[.val (.int p0), .val (.int p1), .val (.long q2), .second, .val (.ref b1), .val (.ref b35), .val (.int (27 : Int32)), .val (.long ((12271 : Int64) + (1 : Int64))), .second, .unset, .unset, .unset, .unset, .unset, .unset] [(.ref b1)])) (fun _ ks => XS.aload X67.here hx rfl (hb hby at_279) rfl rfl ks) ?_
        refine Dn.by (U' := T67.setTop (mkF m 283 #[.val (.int p0), .val (.int p1), .val (.long q2), .second, .val (.ref b1), .val (.ref b35), .val (.int (27 : Int32)), .val (.long ((12271 : Int64) + (1 : Int64))), .second, .unset, .unset, .unset, .unset, .unset, .unset] [(.int (27 : Int32)), (.ref b1)])) (fun _ ks => XS.iload X67.here hx rfl (hb hby at_281) rfl ks) ?_
        refine Dn.by (U' := T67.setTop (mkF m 285 #[.val (.int p0), .val (.int p1), .val (.long q2), .second, .val (.ref b1), .val (.ref b35), .val (.int (27 : Int32)), .val (.long ((12271 : Int64) + (1 : Int64))), .second, .unset, .unset, .unset, .unset, .unset, .unset] [(.int (15 : Int32)), (.int (27 : Int32)), (.ref b1)])) (fun _ ks => XS.bipush X67.here hx rfl (hb hby at_283)  ks) ?_
        refine Dn.by (U' := T67.setTop (mkF m 286 #[.val (.int p0), .val (.int p1), .val (.long q2), .second, .val (.ref b1), .val (.ref b35), .val (.int (27 : Int32)), .val (.long ((12271 : Int64) + (1 : Int64))), .second, .unset, .unset, .unset, .unset, .unset, .unset] [(.int ((27 : Int32) - (15 : Int32))), (.ref b1)])) (fun _ ks => XS.isub X67.here hx rfl (hb hby at_285) rfl ks) ?_
        rw [show ((27 : Int32) - (15 : Int32)) = (12 : Int32) from by decide]
        obtain ⟨cl129, Ar129, q129, S129, M129, H129, G129⟩ := id (((((((((((((((((V33b.ext E35).other W37 ne_b1_b35).other W39 ne_b1_b35).other W41 ne_b1_b35).other W43 ne_b1_b35).other W45 ne_b1_b35).other W47 ne_b1_b35).other W49 ne_b1_b35).other W51 ne_b1_b35).other W53 ne_b1_b35).other W55 ne_b1_b35).other W57 ne_b1_b35).other W59 ne_b1_b35).other W61 ne_b1_b35).other W63 ne_b1_b35).other W65 ne_b1_b35).other W67 ne_b1_b35)
        have in129 := inb_of (j := (12 : Int32)) S129 ⟨by decide, by decide⟩
        have at129 : cl129.slots[(12 : Int32).toNatClampNeg]? = some (.long (12289 : Int64)) := H129.at in129 rfl
        refine Dn.by (U' := T67.setTop (mkF m 287 #[.val (.int p0), .val (.int p1), .val (.long q2), .second, .val (.ref b1), .val (.ref b35), .val (.int (27 : Int32)), .val (.long ((12271 : Int64) + (1 : Int64))), .second, .unset, .unset, .unset, .unset, .unset, .unset] [(.long (12289 : Int64))])) (X67.laload hx (j := (12 : Int32)) (v := (.long (12289 : Int64))) (by rw [e67]; exact Ar129.1) (State.isArrayOf_alike hZ.alike Ar129.2.1) Ar129.2.2 in129 at129 (g := (mkF m 286 #[.val (.int p0), .val (.int p1), .val (.long q2), .second, .val (.ref b1), .val (.ref b35), .val (.int (27 : Int32)), .val (.long ((12271 : Int64) + (1 : Int64))), .second, .unset, .unset, .unset, .unset, .unset, .unset] [(.int (12 : Int32)), (.ref b1)])) rfl rfl (hb hby at_286)) ?_
        refine Dn.by (U' := T67.setTop (mkF m 288 #[.val (.int p0), .val (.int p1), .val (.long q2), .second, .val (.ref b1), .val (.ref b35), .val (.int (27 : Int32)), .val (.long ((12271 : Int64) + (1 : Int64))), .second, .unset, .unset, .unset, .unset, .unset, .unset] [(.long (1 : Int64)), (.long (12289 : Int64))])) (fun _ ks => XS.lconst X67.here hx rfl (hb hby at_287)  ks) ?_
        refine Dn.by (U' := T67.setTop (mkF m 289 #[.val (.int p0), .val (.int p1), .val (.long q2), .second, .val (.ref b1), .val (.ref b35), .val (.int (27 : Int32)), .val (.long ((12271 : Int64) + (1 : Int64))), .second, .unset, .unset, .unset, .unset, .unset, .unset] [(.long ((12289 : Int64) - (1 : Int64)))])) (fun _ ks => XS.lsub X67.here hx rfl (hb hby at_288) rfl ks) ?_
        refine Dn.by (U' := T67.setTop (mkF m 291 #[.val (.int p0), .val (.int p1), .val (.long q2), .second, .val (.ref b1), .val (.ref b35), .val (.int (27 : Int32)), .val (.long ((12271 : Int64) + (1 : Int64))), .second, .val (.long ((12289 : Int64) - (1 : Int64))), .second, .unset, .unset, .unset, .unset] [])) (fun _ ks => XS.lstore X67.here hx rfl (hb hby at_289) rfl (l' := #[.val (.int p0), .val (.int p1), .val (.long q2), .second, .val (.ref b1), .val (.ref b35), .val (.int (27 : Int32)), .val (.long ((12271 : Int64) + (1 : Int64))), .second, .val (.long ((12289 : Int64) - (1 : Int64))), .second, .unset, .unset, .unset, .unset]) rfl ks) ?_
        refine Dn.by (U' := T67.setTop (mkF m 292 #[.val (.int p0), .val (.int p1), .val (.long q2), .second, .val (.ref b1), .val (.ref b35), .val (.int (27 : Int32)), .val (.long ((12271 : Int64) + (1 : Int64))), .second, .val (.long ((12289 : Int64) - (1 : Int64))), .second, .unset, .unset, .unset, .unset] [(.int (0 : Int32))])) (fun _ ks => XS.iconst X67.here hx rfl (hb hby at_291)  ks) ?_
        refine Dn.by (U' := T67.setTop (mkF m 294 #[.val (.int p0), .val (.int p1), .val (.long q2), .second, .val (.ref b1), .val (.ref b35), .val (.int (27 : Int32)), .val (.long ((12271 : Int64) + (1 : Int64))), .second, .val (.long ((12289 : Int64) - (1 : Int64))), .second, .val (.int (0 : Int32)), .unset, .unset, .unset] [])) (fun _ ks => XS.istore X67.here hx rfl (hb hby at_292) rfl (l' := #[.val (.int p0), .val (.int p1), .val (.long q2), .second, .val (.ref b1), .val (.ref b35), .val (.int (27 : Int32)), .val (.long ((12271 : Int64) + (1 : Int64))), .second, .val (.long ((12289 : Int64) - (1 : Int64))), .second, .val (.int (0 : Int32)), .unset, .unset, .unset]) rfl ks) ?_
        refine Dn.by (U' := T67.setTop (mkF m 333 #[.val (.int p0), .val (.int p1), .val (.long q2), .second, .val (.ref b1), .val (.ref b35), .val (.int (27 : Int32)), .val (.long ((12271 : Int64) + (1 : Int64))), .second, .val (.long ((12289 : Int64) - (1 : Int64))), .second, .val (.int (0 : Int32)), .unset, .unset, .unset] [])) (fun _ ks => XS.goto X67.here hx rfl (pc0 := 294) (pc' := 333) rfl (hb hby at_294) (by decide) (by decide) ks) ?_
        exact J _ _ _ (own_R0 _ _ (12272) (12288) (by decide) (by decide) (by decide) (by decide) (by decide) (fun c q1 q2 => by unfold inS; omega))
      ·
        refine Dn.by (U' := T67.setTop (mkF m 269 #[.val (.int p0), .val (.int p1), .val (.long q2), .second, .val (.ref b1), .val (.ref b35), .val (.int (28 : Int32)), .unset, .unset, .unset, .unset, .unset, .unset, .unset, .unset] [(.ref b35)])) (fun _ ks => XS.aload X67.here hx rfl (hb hby at_267) rfl rfl ks) ?_
        refine Dn.by (U' := T67.setTop (mkF m 271 #[.val (.int p0), .val (.int p1), .val (.long q2), .second, .val (.ref b1), .val (.ref b35), .val (.int (28 : Int32)), .unset, .unset, .unset, .unset, .unset, .unset, .unset, .unset] [(.int (28 : Int32)), (.ref b35)])) (fun _ ks => XS.iload X67.here hx rfl (hb hby at_269) rfl ks) ?_
        refine Dn.by (U' := T67.setTop (mkF m 273 #[.val (.int p0), .val (.int p1), .val (.long q2), .second, .val (.ref b1), .val (.ref b35), .val (.int (28 : Int32)), .unset, .unset, .unset, .unset, .unset, .unset, .unset, .unset] [(.int (16 : Int32)), (.int (28 : Int32)), (.ref b35)])) (fun _ ks => XS.bipush X67.here hx rfl (hb hby at_271)  ks) ?_
        refine Dn.by (U' := T67.setTop (mkF m 274 #[.val (.int p0), .val (.int p1), .val (.long q2), .second, .val (.ref b1), .val (.ref b35), .val (.int (28 : Int32)), .unset, .unset, .unset, .unset, .unset, .unset, .unset, .unset] [(.int ((28 : Int32) - (16 : Int32))), (.ref b35)])) (fun _ ks => XS.isub X67.here hx rfl (hb hby at_273) rfl ks) ?_
        rw [show ((28 : Int32) - (16 : Int32)) = (12 : Int32) from by decide]
        obtain ⟨cl130, Ar130, q130, S130, M130, H130, G130⟩ := id V67b
        have in130 := inb_of (j := (12 : Int32)) S130 ⟨by decide, by decide⟩
        have at130 : cl130.slots[(12 : Int32).toNatClampNeg]? = some (.long (55295 : Int64)) := H130.at in130 rfl
        refine Dn.by (U' := T67.setTop (mkF m 275 #[.val (.int p0), .val (.int p1), .val (.long q2), .second, .val (.ref b1), .val (.ref b35), .val (.int (28 : Int32)), .unset, .unset, .unset, .unset, .unset, .unset, .unset, .unset] [(.long (55295 : Int64))])) (X67.laload hx (j := (12 : Int32)) (v := (.long (55295 : Int64))) (by rw [e67]; exact Ar130.1) (State.isArrayOf_alike hZ.alike Ar130.2.1) Ar130.2.2 in130 at130 (g := (mkF m 274 #[.val (.int p0), .val (.int p1), .val (.long q2), .second, .val (.ref b1), .val (.ref b35), .val (.int (28 : Int32)), .unset, .unset, .unset, .unset, .unset, .unset, .unset, .unset] [(.int (12 : Int32)), (.ref b35)])) rfl rfl (hb hby at_274)) ?_
        refine Dn.by (U' := T67.setTop (mkF m 276 #[.val (.int p0), .val (.int p1), .val (.long q2), .second, .val (.ref b1), .val (.ref b35), .val (.int (28 : Int32)), .unset, .unset, .unset, .unset, .unset, .unset, .unset, .unset] [(.long (1 : Int64)), (.long (55295 : Int64))])) (fun _ ks => XS.lconst X67.here hx rfl (hb hby at_275)  ks) ?_
        refine Dn.by (U' := T67.setTop (mkF m 277 #[.val (.int p0), .val (.int p1), .val (.long q2), .second, .val (.ref b1), .val (.ref b35), .val (.int (28 : Int32)), .unset, .unset, .unset, .unset, .unset, .unset, .unset, .unset] [(.long ((55295 : Int64) + (1 : Int64)))])) (fun _ ks => XS.ladd X67.here hx rfl (hb hby at_276) rfl ks) ?_
        refine Dn.by (U' := T67.setTop (mkF m 279 #[.val (.int p0), .val (.int p1), .val (.long q2), .second, .val (.ref b1), .val (.ref b35), .val (.int (28 : Int32)), .val (.long ((55295 : Int64) + (1 : Int64))), .second, .unset, .unset, .unset, .unset, .unset, .unset] [])) (fun _ ks => XS.lstore X67.here hx rfl (hb hby at_277) rfl (l' := #[.val (.int p0), .val (.int p1), .val (.long q2), .second, .val (.ref b1), .val (.ref b35), .val (.int (28 : Int32)), .val (.long ((55295 : Int64) + (1 : Int64))), .second, .unset, .unset, .unset, .unset, .unset, .unset]) rfl ks) ?_
        refine Dn.by (U' := T67.setTop (mkF m 281 #[.val (.int p0), .val (.int p1), .val (.long q2), .second, .val (.ref b1), .val (.ref b35), .val (.int (28 : Int32)), .val (.long ((55295 : Int64) + (1 : Int64))), .second, .unset, .unset, .unset, .unset, .unset, .unset] [(.ref b1)])) (fun _ ks => XS.aload X67.here hx rfl (hb hby at_279) rfl rfl ks) ?_
        refine Dn.by (U' := T67.setTop (mkF m 283 #[.val (.int p0), .val (.int p1), .val (.long q2), .second, .val (.ref b1), .val (.ref b35), .val (.int (28 : Int32)), .val (.long ((55295 : Int64) + (1 : Int64))), .second, .unset, .unset, .unset, .unset, .unset, .unset] [(.int (28 : Int32)), (.ref b1)])) (fun _ ks => XS.iload X67.here hx rfl (hb hby at_281) rfl ks) ?_
        refine Dn.by (U' := T67.setTop (mkF m 285 #[.val (.int p0), .val (.int p1), .val (.long q2), .second, .val (.ref b1), .val (.ref b35), .val (.int (28 : Int32)), .val (.long ((55295 : Int64) + (1 : Int64))), .second, .unset, .unset, .unset, .unset, .unset, .unset] [(.int (15 : Int32)), (.int (28 : Int32)), (.ref b1)])) (fun _ ks => XS.bipush X67.here hx rfl (hb hby at_283)  ks) ?_
        refine Dn.by (U' := T67.setTop (mkF m 286 #[.val (.int p0), .val (.int p1), .val (.long q2), .second, .val (.ref b1), .val (.ref b35), .val (.int (28 : Int32)), .val (.long ((55295 : Int64) + (1 : Int64))), .second, .unset, .unset, .unset, .unset, .unset, .unset] [(.int ((28 : Int32) - (15 : Int32))), (.ref b1)])) (fun _ ks => XS.isub X67.here hx rfl (hb hby at_285) rfl ks) ?_
        rw [show ((28 : Int32) - (15 : Int32)) = (13 : Int32) from by decide]
        obtain ⟨cl131, Ar131, q131, S131, M131, H131, G131⟩ := id (((((((((((((((((V33b.ext E35).other W37 ne_b1_b35).other W39 ne_b1_b35).other W41 ne_b1_b35).other W43 ne_b1_b35).other W45 ne_b1_b35).other W47 ne_b1_b35).other W49 ne_b1_b35).other W51 ne_b1_b35).other W53 ne_b1_b35).other W55 ne_b1_b35).other W57 ne_b1_b35).other W59 ne_b1_b35).other W61 ne_b1_b35).other W63 ne_b1_b35).other W65 ne_b1_b35).other W67 ne_b1_b35)
        have in131 := inb_of (j := (13 : Int32)) S131 ⟨by decide, by decide⟩
        have at131 : cl131.slots[(13 : Int32).toNatClampNeg]? = some (.long (63744 : Int64)) := H131.at in131 rfl
        refine Dn.by (U' := T67.setTop (mkF m 287 #[.val (.int p0), .val (.int p1), .val (.long q2), .second, .val (.ref b1), .val (.ref b35), .val (.int (28 : Int32)), .val (.long ((55295 : Int64) + (1 : Int64))), .second, .unset, .unset, .unset, .unset, .unset, .unset] [(.long (63744 : Int64))])) (X67.laload hx (j := (13 : Int32)) (v := (.long (63744 : Int64))) (by rw [e67]; exact Ar131.1) (State.isArrayOf_alike hZ.alike Ar131.2.1) Ar131.2.2 in131 at131 (g := (mkF m 286 #[.val (.int p0), .val (.int p1), .val (.long q2), .second, .val (.ref b1), .val (.ref b35), .val (.int (28 : Int32)), .val (.long ((55295 : Int64) + (1 : Int64))), .second, .unset, .unset, .unset, .unset, .unset, .unset] [(.int (13 : Int32)), (.ref b1)])) rfl rfl (hb hby at_286)) ?_
        refine Dn.by (U' := T67.setTop (mkF m 288 #[.val (.int p0), .val (.int p1), .val (.long q2), .second, .val (.ref b1), .val (.ref b35), .val (.int (28 : Int32)), .val (.long ((55295 : Int64) + (1 : Int64))), .second, .unset, .unset, .unset, .unset, .unset, .unset] [(.long (1 : Int64)), (.long (63744 : Int64))])) (fun _ ks => XS.lconst X67.here hx rfl (hb hby at_287)  ks) ?_
        refine Dn.by (U' := T67.setTop (mkF m 289 #[.val (.int p0), .val (.int p1), .val (.long q2), .second, .val (.ref b1), .val (.ref b35), .val (.int (28 : Int32)), .val (.long ((55295 : Int64) + (1 : Int64))), .second, .unset, .unset, .unset, .unset, .unset, .unset] [(.long ((63744 : Int64) - (1 : Int64)))])) (fun _ ks => XS.lsub X67.here hx rfl (hb hby at_288) rfl ks) ?_
        refine Dn.by (U' := T67.setTop (mkF m 291 #[.val (.int p0), .val (.int p1), .val (.long q2), .second, .val (.ref b1), .val (.ref b35), .val (.int (28 : Int32)), .val (.long ((55295 : Int64) + (1 : Int64))), .second, .val (.long ((63744 : Int64) - (1 : Int64))), .second, .unset, .unset, .unset, .unset] [])) (fun _ ks => XS.lstore X67.here hx rfl (hb hby at_289) rfl (l' := #[.val (.int p0), .val (.int p1), .val (.long q2), .second, .val (.ref b1), .val (.ref b35), .val (.int (28 : Int32)), .val (.long ((55295 : Int64) + (1 : Int64))), .second, .val (.long ((63744 : Int64) - (1 : Int64))), .second, .unset, .unset, .unset, .unset]) rfl ks) ?_
        refine Dn.by (U' := T67.setTop (mkF m 292 #[.val (.int p0), .val (.int p1), .val (.long q2), .second, .val (.ref b1), .val (.ref b35), .val (.int (28 : Int32)), .val (.long ((55295 : Int64) + (1 : Int64))), .second, .val (.long ((63744 : Int64) - (1 : Int64))), .second, .unset, .unset, .unset, .unset] [(.int (0 : Int32))])) (fun _ ks => XS.iconst X67.here hx rfl (hb hby at_291)  ks) ?_
        refine Dn.by (U' := T67.setTop (mkF m 294 #[.val (.int p0), .val (.int p1), .val (.long q2), .second, .val (.ref b1), .val (.ref b35), .val (.int (28 : Int32)), .val (.long ((55295 : Int64) + (1 : Int64))), .second, .val (.long ((63744 : Int64) - (1 : Int64))), .second, .val (.int (0 : Int32)), .unset, .unset, .unset] [])) (fun _ ks => XS.istore X67.here hx rfl (hb hby at_292) rfl (l' := #[.val (.int p0), .val (.int p1), .val (.long q2), .second, .val (.ref b1), .val (.ref b35), .val (.int (28 : Int32)), .val (.long ((55295 : Int64) + (1 : Int64))), .second, .val (.long ((63744 : Int64) - (1 : Int64))), .second, .val (.int (0 : Int32)), .unset, .unset, .unset]) rfl ks) ?_
        refine Dn.by (U' := T67.setTop (mkF m 333 #[.val (.int p0), .val (.int p1), .val (.long q2), .second, .val (.ref b1), .val (.ref b35), .val (.int (28 : Int32)), .val (.long ((55295 : Int64) + (1 : Int64))), .second, .val (.long ((63744 : Int64) - (1 : Int64))), .second, .val (.int (0 : Int32)), .unset, .unset, .unset] [])) (fun _ ks => XS.goto X67.here hx rfl (pc0 := 294) (pc' := 333) rfl (hb hby at_294) (by decide) (by decide) ks) ?_
        exact J _ _ _ (own_R0 _ _ (55296) (63743) (by decide) (by decide) (by decide) (by decide) (by decide) (fun c q1 q2 => by unfold inS; omega))
      ·
        refine Dn.by (U' := T67.setTop (mkF m 269 #[.val (.int p0), .val (.int p1), .val (.long q2), .second, .val (.ref b1), .val (.ref b35), .val (.int (29 : Int32)), .unset, .unset, .unset, .unset, .unset, .unset, .unset, .unset] [(.ref b35)])) (fun _ ks => XS.aload X67.here hx rfl (hb hby at_267) rfl rfl ks) ?_
        refine Dn.by (U' := T67.setTop (mkF m 271 #[.val (.int p0), .val (.int p1), .val (.long q2), .second, .val (.ref b1), .val (.ref b35), .val (.int (29 : Int32)), .unset, .unset, .unset, .unset, .unset, .unset, .unset, .unset] [(.int (29 : Int32)), (.ref b35)])) (fun _ ks => XS.iload X67.here hx rfl (hb hby at_269) rfl ks) ?_
        refine Dn.by (U' := T67.setTop (mkF m 273 #[.val (.int p0), .val (.int p1), .val (.long q2), .second, .val (.ref b1), .val (.ref b35), .val (.int (29 : Int32)), .unset, .unset, .unset, .unset, .unset, .unset, .unset, .unset] [(.int (16 : Int32)), (.int (29 : Int32)), (.ref b35)])) (fun _ ks => XS.bipush X67.here hx rfl (hb hby at_271)  ks) ?_
        refine Dn.by (U' := T67.setTop (mkF m 274 #[.val (.int p0), .val (.int p1), .val (.long q2), .second, .val (.ref b1), .val (.ref b35), .val (.int (29 : Int32)), .unset, .unset, .unset, .unset, .unset, .unset, .unset, .unset] [(.int ((29 : Int32) - (16 : Int32))), (.ref b35)])) (fun _ ks => XS.isub X67.here hx rfl (hb hby at_273) rfl ks) ?_
        rw [show ((29 : Int32) - (16 : Int32)) = (13 : Int32) from by decide]
        obtain ⟨cl132, Ar132, q132, S132, M132, H132, G132⟩ := id V67b
        have in132 := inb_of (j := (13 : Int32)) S132 ⟨by decide, by decide⟩
        have at132 : cl132.slots[(13 : Int32).toNatClampNeg]? = some (.long (64975 : Int64)) := H132.at in132 rfl
        refine Dn.by (U' := T67.setTop (mkF m 275 #[.val (.int p0), .val (.int p1), .val (.long q2), .second, .val (.ref b1), .val (.ref b35), .val (.int (29 : Int32)), .unset, .unset, .unset, .unset, .unset, .unset, .unset, .unset] [(.long (64975 : Int64))])) (X67.laload hx (j := (13 : Int32)) (v := (.long (64975 : Int64))) (by rw [e67]; exact Ar132.1) (State.isArrayOf_alike hZ.alike Ar132.2.1) Ar132.2.2 in132 at132 (g := (mkF m 274 #[.val (.int p0), .val (.int p1), .val (.long q2), .second, .val (.ref b1), .val (.ref b35), .val (.int (29 : Int32)), .unset, .unset, .unset, .unset, .unset, .unset, .unset, .unset] [(.int (13 : Int32)), (.ref b35)])) rfl rfl (hb hby at_274)) ?_
        refine Dn.by (U' := T67.setTop (mkF m 276 #[.val (.int p0), .val (.int p1), .val (.long q2), .second, .val (.ref b1), .val (.ref b35), .val (.int (29 : Int32)), .unset, .unset, .unset, .unset, .unset, .unset, .unset, .unset] [(.long (1 : Int64)), (.long (64975 : Int64))])) (fun _ ks => XS.lconst X67.here hx rfl (hb hby at_275)  ks) ?_
        refine Dn.by (U' := T67.setTop (mkF m 277 #[.val (.int p0), .val (.int p1), .val (.long q2), .second, .val (.ref b1), .val (.ref b35), .val (.int (29 : Int32)), .unset, .unset, .unset, .unset, .unset, .unset, .unset, .unset] [(.long ((64975 : Int64) + (1 : Int64)))])) (fun _ ks => XS.ladd X67.here hx rfl (hb hby at_276) rfl ks) ?_
        refine Dn.by (U' := T67.setTop (mkF m 279 #[.val (.int p0), .val (.int p1), .val (.long q2), .second, .val (.ref b1), .val (.ref b35), .val (.int (29 : Int32)), .val (.long ((64975 : Int64) + (1 : Int64))), .second, .unset, .unset, .unset, .unset, .unset, .unset] [])) (fun _ ks => XS.lstore X67.here hx rfl (hb hby at_277) rfl (l' := #[.val (.int p0), .val (.int p1), .val (.long q2), .second, .val (.ref b1), .val (.ref b35), .val (.int (29 : Int32)), .val (.long ((64975 : Int64) + (1 : Int64))), .second, .unset, .unset, .unset, .unset, .unset, .unset]) rfl ks) ?_
        refine Dn.by (U' := T67.setTop (mkF m 281 #[.val (.int p0), .val (.int p1), .val (.long q2), .second, .val (.ref b1), .val (.ref b35), .val (.int (29 : Int32)), .val (.long ((64975 : Int64) + (1 : Int64))), .second, .unset, .unset, .unset, .unset, .unset, .unset] [(.ref b1)])) (fun _ ks => XS.aload X67.here hx rfl (hb hby at_279) rfl rfl ks) ?_
        refine Dn.by (U' := T67.setTop (mkF m 283 #[.val (.int p0), .val (.int p1), .val (.long q2), .second, .val (.ref b1), .val (.ref b35), .val (.int (29 : Int32)), .val (.long ((64975 : Int64) + (1 : Int64))), .second, .unset, .unset, .unset, .unset, .unset, .unset] [(.int (29 : Int32)), (.ref b1)])) (fun _ ks => XS.iload X67.here hx rfl (hb hby at_281) rfl ks) ?_
        refine Dn.by (U' := T67.setTop (mkF m 285 #[.val (.int p0), .val (.int p1), .val (.long q2), .second, .val (.ref b1), .val (.ref b35), .val (.int (29 : Int32)), .val (.long ((64975 : Int64) + (1 : Int64))), .second, .unset, .unset, .unset, .unset, .unset, .unset] [(.int (15 : Int32)), (.int (29 : Int32)), (.ref b1)])) (fun _ ks => XS.bipush X67.here hx rfl (hb hby at_283)  ks) ?_
        refine Dn.by (U' := T67.setTop (mkF m 286 #[.val (.int p0), .val (.int p1), .val (.long q2), .second, .val (.ref b1), .val (.ref b35), .val (.int (29 : Int32)), .val (.long ((64975 : Int64) + (1 : Int64))), .second, .unset, .unset, .unset, .unset, .unset, .unset] [(.int ((29 : Int32) - (15 : Int32))), (.ref b1)])) (fun _ ks => XS.isub X67.here hx rfl (hb hby at_285) rfl ks) ?_
        rw [show ((29 : Int32) - (15 : Int32)) = (14 : Int32) from by decide]
        obtain ⟨cl133, Ar133, q133, S133, M133, H133, G133⟩ := id (((((((((((((((((V33b.ext E35).other W37 ne_b1_b35).other W39 ne_b1_b35).other W41 ne_b1_b35).other W43 ne_b1_b35).other W45 ne_b1_b35).other W47 ne_b1_b35).other W49 ne_b1_b35).other W51 ne_b1_b35).other W53 ne_b1_b35).other W55 ne_b1_b35).other W57 ne_b1_b35).other W59 ne_b1_b35).other W61 ne_b1_b35).other W63 ne_b1_b35).other W65 ne_b1_b35).other W67 ne_b1_b35)
        have in133 := inb_of (j := (14 : Int32)) S133 ⟨by decide, by decide⟩
        have at133 : cl133.slots[(14 : Int32).toNatClampNeg]? = some (.long (65008 : Int64)) := H133.at in133 rfl
        refine Dn.by (U' := T67.setTop (mkF m 287 #[.val (.int p0), .val (.int p1), .val (.long q2), .second, .val (.ref b1), .val (.ref b35), .val (.int (29 : Int32)), .val (.long ((64975 : Int64) + (1 : Int64))), .second, .unset, .unset, .unset, .unset, .unset, .unset] [(.long (65008 : Int64))])) (X67.laload hx (j := (14 : Int32)) (v := (.long (65008 : Int64))) (by rw [e67]; exact Ar133.1) (State.isArrayOf_alike hZ.alike Ar133.2.1) Ar133.2.2 in133 at133 (g := (mkF m 286 #[.val (.int p0), .val (.int p1), .val (.long q2), .second, .val (.ref b1), .val (.ref b35), .val (.int (29 : Int32)), .val (.long ((64975 : Int64) + (1 : Int64))), .second, .unset, .unset, .unset, .unset, .unset, .unset] [(.int (14 : Int32)), (.ref b1)])) rfl rfl (hb hby at_286)) ?_
        refine Dn.by (U' := T67.setTop (mkF m 288 #[.val (.int p0), .val (.int p1), .val (.long q2), .second, .val (.ref b1), .val (.ref b35), .val (.int (29 : Int32)), .val (.long ((64975 : Int64) + (1 : Int64))), .second, .unset, .unset, .unset, .unset, .unset, .unset] [(.long (1 : Int64)), (.long (65008 : Int64))])) (fun _ ks => XS.lconst X67.here hx rfl (hb hby at_287)  ks) ?_
        refine Dn.by (U' := T67.setTop (mkF m 289 #[.val (.int p0), .val (.int p1), .val (.long q2), .second, .val (.ref b1), .val (.ref b35), .val (.int (29 : Int32)), .val (.long ((64975 : Int64) + (1 : Int64))), .second, .unset, .unset, .unset, .unset, .unset, .unset] [(.long ((65008 : Int64) - (1 : Int64)))])) (fun _ ks => XS.lsub X67.here hx rfl (hb hby at_288) rfl ks) ?_
        refine Dn.by (U' := T67.setTop (mkF m 291 #[.val (.int p0), .val (.int p1), .val (.long q2), .second, .val (.ref b1), .val (.ref b35), .val (.int (29 : Int32)), .val (.long ((64975 : Int64) + (1 : Int64))), .second, .val (.long ((65008 : Int64) - (1 : Int64))), .second, .unset, .unset, .unset, .unset] [])) (fun _ ks => XS.lstore X67.here hx rfl (hb hby at_289) rfl (l' := #[.val (.int p0), .val (.int p1), .val (.long q2), .second, .val (.ref b1), .val (.ref b35), .val (.int (29 : Int32)), .val (.long ((64975 : Int64) + (1 : Int64))), .second, .val (.long ((65008 : Int64) - (1 : Int64))), .second, .unset, .unset, .unset, .unset]) rfl ks) ?_
        refine Dn.by (U' := T67.setTop (mkF m 292 #[.val (.int p0), .val (.int p1), .val (.long q2), .second, .val (.ref b1), .val (.ref b35), .val (.int (29 : Int32)), .val (.long ((64975 : Int64) + (1 : Int64))), .second, .val (.long ((65008 : Int64) - (1 : Int64))), .second, .unset, .unset, .unset, .unset] [(.int (0 : Int32))])) (fun _ ks => XS.iconst X67.here hx rfl (hb hby at_291)  ks) ?_
        refine Dn.by (U' := T67.setTop (mkF m 294 #[.val (.int p0), .val (.int p1), .val (.long q2), .second, .val (.ref b1), .val (.ref b35), .val (.int (29 : Int32)), .val (.long ((64975 : Int64) + (1 : Int64))), .second, .val (.long ((65008 : Int64) - (1 : Int64))), .second, .val (.int (0 : Int32)), .unset, .unset, .unset] [])) (fun _ ks => XS.istore X67.here hx rfl (hb hby at_292) rfl (l' := #[.val (.int p0), .val (.int p1), .val (.long q2), .second, .val (.ref b1), .val (.ref b35), .val (.int (29 : Int32)), .val (.long ((64975 : Int64) + (1 : Int64))), .second, .val (.long ((65008 : Int64) - (1 : Int64))), .second, .val (.int (0 : Int32)), .unset, .unset, .unset]) rfl ks) ?_
        refine Dn.by (U' := T67.setTop (mkF m 333 #[.val (.int p0), .val (.int p1), .val (.long q2), .second, .val (.ref b1), .val (.ref b35), .val (.int (29 : Int32)), .val (.long ((64975 : Int64) + (1 : Int64))), .second, .val (.long ((65008 : Int64) - (1 : Int64))), .second, .val (.int (0 : Int32)), .unset, .unset, .unset] [])) (fun _ ks => XS.goto X67.here hx rfl (pc0 := 294) (pc' := 333) rfl (hb hby at_294) (by decide) (by decide) ks) ?_
        exact J _ _ _ (own_R0 _ _ (64976) (65007) (by decide) (by decide) (by decide) (by decide) (by decide) (fun c q1 q2 => by unfold inS; omega))
      ·
        refine Dn.by (U' := T67.setTop (mkF m 269 #[.val (.int p0), .val (.int p1), .val (.long q2), .second, .val (.ref b1), .val (.ref b35), .val (.int (30 : Int32)), .unset, .unset, .unset, .unset, .unset, .unset, .unset, .unset] [(.ref b35)])) (fun _ ks => XS.aload X67.here hx rfl (hb hby at_267) rfl rfl ks) ?_
        refine Dn.by (U' := T67.setTop (mkF m 271 #[.val (.int p0), .val (.int p1), .val (.long q2), .second, .val (.ref b1), .val (.ref b35), .val (.int (30 : Int32)), .unset, .unset, .unset, .unset, .unset, .unset, .unset, .unset] [(.int (30 : Int32)), (.ref b35)])) (fun _ ks => XS.iload X67.here hx rfl (hb hby at_269) rfl ks) ?_
        refine Dn.by (U' := T67.setTop (mkF m 273 #[.val (.int p0), .val (.int p1), .val (.long q2), .second, .val (.ref b1), .val (.ref b35), .val (.int (30 : Int32)), .unset, .unset, .unset, .unset, .unset, .unset, .unset, .unset] [(.int (16 : Int32)), (.int (30 : Int32)), (.ref b35)])) (fun _ ks => XS.bipush X67.here hx rfl (hb hby at_271)  ks) ?_
        refine Dn.by (U' := T67.setTop (mkF m 274 #[.val (.int p0), .val (.int p1), .val (.long q2), .second, .val (.ref b1), .val (.ref b35), .val (.int (30 : Int32)), .unset, .unset, .unset, .unset, .unset, .unset, .unset, .unset] [(.int ((30 : Int32) - (16 : Int32))), (.ref b35)])) (fun _ ks => XS.isub X67.here hx rfl (hb hby at_273) rfl ks) ?_
        rw [show ((30 : Int32) - (16 : Int32)) = (14 : Int32) from by decide]
        obtain ⟨cl134, Ar134, q134, S134, M134, H134, G134⟩ := id V67b
        have in134 := inb_of (j := (14 : Int32)) S134 ⟨by decide, by decide⟩
        have at134 : cl134.slots[(14 : Int32).toNatClampNeg]? = some (.long (65533 : Int64)) := H134.at in134 rfl
        refine Dn.by (U' := T67.setTop (mkF m 275 #[.val (.int p0), .val (.int p1), .val (.long q2), .second, .val (.ref b1), .val (.ref b35), .val (.int (30 : Int32)), .unset, .unset, .unset, .unset, .unset, .unset, .unset, .unset] [(.long (65533 : Int64))])) (X67.laload hx (j := (14 : Int32)) (v := (.long (65533 : Int64))) (by rw [e67]; exact Ar134.1) (State.isArrayOf_alike hZ.alike Ar134.2.1) Ar134.2.2 in134 at134 (g := (mkF m 274 #[.val (.int p0), .val (.int p1), .val (.long q2), .second, .val (.ref b1), .val (.ref b35), .val (.int (30 : Int32)), .unset, .unset, .unset, .unset, .unset, .unset, .unset, .unset] [(.int (14 : Int32)), (.ref b35)])) rfl rfl (hb hby at_274)) ?_
        refine Dn.by (U' := T67.setTop (mkF m 276 #[.val (.int p0), .val (.int p1), .val (.long q2), .second, .val (.ref b1), .val (.ref b35), .val (.int (30 : Int32)), .unset, .unset, .unset, .unset, .unset, .unset, .unset, .unset] [(.long (1 : Int64)), (.long (65533 : Int64))])) (fun _ ks => XS.lconst X67.here hx rfl (hb hby at_275)  ks) ?_
        refine Dn.by (U' := T67.setTop (mkF m 277 #[.val (.int p0), .val (.int p1), .val (.long q2), .second, .val (.ref b1), .val (.ref b35), .val (.int (30 : Int32)), .unset, .unset, .unset, .unset, .unset, .unset, .unset, .unset] [(.long ((65533 : Int64) + (1 : Int64)))])) (fun _ ks => XS.ladd X67.here hx rfl (hb hby at_276) rfl ks) ?_
        refine Dn.by (U' := T67.setTop (mkF m 279 #[.val (.int p0), .val (.int p1), .val (.long q2), .second, .val (.ref b1), .val (.ref b35), .val (.int (30 : Int32)), .val (.long ((65533 : Int64) + (1 : Int64))), .second, .unset, .unset, .unset, .unset, .unset, .unset] [])) (fun _ ks => XS.lstore X67.here hx rfl (hb hby at_277) rfl (l' := #[.val (.int p0), .val (.int p1), .val (.long q2), .second, .val (.ref b1), .val (.ref b35), .val (.int (30 : Int32)), .val (.long ((65533 : Int64) + (1 : Int64))), .second, .unset, .unset, .unset, .unset, .unset, .unset]) rfl ks) ?_
        refine Dn.by (U' := T67.setTop (mkF m 281 #[.val (.int p0), .val (.int p1), .val (.long q2), .second, .val (.ref b1), .val (.ref b35), .val (.int (30 : Int32)), .val (.long ((65533 : Int64) + (1 : Int64))), .second, .unset, .unset, .unset, .unset, .unset, .unset] [(.ref b1)])) (fun _ ks => XS.aload X67.here hx rfl (hb hby at_279) rfl rfl ks) ?_
        refine Dn.by (U' := T67.setTop (mkF m 283 #[.val (.int p0), .val (.int p1), .val (.long q2), .second, .val (.ref b1), .val (.ref b35), .val (.int (30 : Int32)), .val (.long ((65533 : Int64) + (1 : Int64))), .second, .unset, .unset, .unset, .unset, .unset, .unset] [(.int (30 : Int32)), (.ref b1)])) (fun _ ks => XS.iload X67.here hx rfl (hb hby at_281) rfl ks) ?_
        refine Dn.by (U' := T67.setTop (mkF m 285 #[.val (.int p0), .val (.int p1), .val (.long q2), .second, .val (.ref b1), .val (.ref b35), .val (.int (30 : Int32)), .val (.long ((65533 : Int64) + (1 : Int64))), .second, .unset, .unset, .unset, .unset, .unset, .unset] [(.int (15 : Int32)), (.int (30 : Int32)), (.ref b1)])) (fun _ ks => XS.bipush X67.here hx rfl (hb hby at_283)  ks) ?_
        refine Dn.by (U' := T67.setTop (mkF m 286 #[.val (.int p0), .val (.int p1), .val (.long q2), .second, .val (.ref b1), .val (.ref b35), .val (.int (30 : Int32)), .val (.long ((65533 : Int64) + (1 : Int64))), .second, .unset, .unset, .unset, .unset, .unset, .unset] [(.int ((30 : Int32) - (15 : Int32))), (.ref b1)])) (fun _ ks => XS.isub X67.here hx rfl (hb hby at_285) rfl ks) ?_
        rw [show ((30 : Int32) - (15 : Int32)) = (15 : Int32) from by decide]
        obtain ⟨cl135, Ar135, q135, S135, M135, H135, G135⟩ := id (((((((((((((((((V33b.ext E35).other W37 ne_b1_b35).other W39 ne_b1_b35).other W41 ne_b1_b35).other W43 ne_b1_b35).other W45 ne_b1_b35).other W47 ne_b1_b35).other W49 ne_b1_b35).other W51 ne_b1_b35).other W53 ne_b1_b35).other W55 ne_b1_b35).other W57 ne_b1_b35).other W59 ne_b1_b35).other W61 ne_b1_b35).other W63 ne_b1_b35).other W65 ne_b1_b35).other W67 ne_b1_b35)
        have in135 := inb_of (j := (15 : Int32)) S135 ⟨by decide, by decide⟩
        have at135 : cl135.slots[(15 : Int32).toNatClampNeg]? = some (.long (65536 : Int64)) := H135.at in135 rfl
        refine Dn.by (U' := T67.setTop (mkF m 287 #[.val (.int p0), .val (.int p1), .val (.long q2), .second, .val (.ref b1), .val (.ref b35), .val (.int (30 : Int32)), .val (.long ((65533 : Int64) + (1 : Int64))), .second, .unset, .unset, .unset, .unset, .unset, .unset] [(.long (65536 : Int64))])) (X67.laload hx (j := (15 : Int32)) (v := (.long (65536 : Int64))) (by rw [e67]; exact Ar135.1) (State.isArrayOf_alike hZ.alike Ar135.2.1) Ar135.2.2 in135 at135 (g := (mkF m 286 #[.val (.int p0), .val (.int p1), .val (.long q2), .second, .val (.ref b1), .val (.ref b35), .val (.int (30 : Int32)), .val (.long ((65533 : Int64) + (1 : Int64))), .second, .unset, .unset, .unset, .unset, .unset, .unset] [(.int (15 : Int32)), (.ref b1)])) rfl rfl (hb hby at_286)) ?_
        refine Dn.by (U' := T67.setTop (mkF m 288 #[.val (.int p0), .val (.int p1), .val (.long q2), .second, .val (.ref b1), .val (.ref b35), .val (.int (30 : Int32)), .val (.long ((65533 : Int64) + (1 : Int64))), .second, .unset, .unset, .unset, .unset, .unset, .unset] [(.long (1 : Int64)), (.long (65536 : Int64))])) (fun _ ks => XS.lconst X67.here hx rfl (hb hby at_287)  ks) ?_
        refine Dn.by (U' := T67.setTop (mkF m 289 #[.val (.int p0), .val (.int p1), .val (.long q2), .second, .val (.ref b1), .val (.ref b35), .val (.int (30 : Int32)), .val (.long ((65533 : Int64) + (1 : Int64))), .second, .unset, .unset, .unset, .unset, .unset, .unset] [(.long ((65536 : Int64) - (1 : Int64)))])) (fun _ ks => XS.lsub X67.here hx rfl (hb hby at_288) rfl ks) ?_
        refine Dn.by (U' := T67.setTop (mkF m 291 #[.val (.int p0), .val (.int p1), .val (.long q2), .second, .val (.ref b1), .val (.ref b35), .val (.int (30 : Int32)), .val (.long ((65533 : Int64) + (1 : Int64))), .second, .val (.long ((65536 : Int64) - (1 : Int64))), .second, .unset, .unset, .unset, .unset] [])) (fun _ ks => XS.lstore X67.here hx rfl (hb hby at_289) rfl (l' := #[.val (.int p0), .val (.int p1), .val (.long q2), .second, .val (.ref b1), .val (.ref b35), .val (.int (30 : Int32)), .val (.long ((65533 : Int64) + (1 : Int64))), .second, .val (.long ((65536 : Int64) - (1 : Int64))), .second, .unset, .unset, .unset, .unset]) rfl ks) ?_
        refine Dn.by (U' := T67.setTop (mkF m 292 #[.val (.int p0), .val (.int p1), .val (.long q2), .second, .val (.ref b1), .val (.ref b35), .val (.int (30 : Int32)), .val (.long ((65533 : Int64) + (1 : Int64))), .second, .val (.long ((65536 : Int64) - (1 : Int64))), .second, .unset, .unset, .unset, .unset] [(.int (0 : Int32))])) (fun _ ks => XS.iconst X67.here hx rfl (hb hby at_291)  ks) ?_
        refine Dn.by (U' := T67.setTop (mkF m 294 #[.val (.int p0), .val (.int p1), .val (.long q2), .second, .val (.ref b1), .val (.ref b35), .val (.int (30 : Int32)), .val (.long ((65533 : Int64) + (1 : Int64))), .second, .val (.long ((65536 : Int64) - (1 : Int64))), .second, .val (.int (0 : Int32)), .unset, .unset, .unset] [])) (fun _ ks => XS.istore X67.here hx rfl (hb hby at_292) rfl (l' := #[.val (.int p0), .val (.int p1), .val (.long q2), .second, .val (.ref b1), .val (.ref b35), .val (.int (30 : Int32)), .val (.long ((65533 : Int64) + (1 : Int64))), .second, .val (.long ((65536 : Int64) - (1 : Int64))), .second, .val (.int (0 : Int32)), .unset, .unset, .unset]) rfl ks) ?_
        refine Dn.by (U' := T67.setTop (mkF m 333 #[.val (.int p0), .val (.int p1), .val (.long q2), .second, .val (.ref b1), .val (.ref b35), .val (.int (30 : Int32)), .val (.long ((65533 : Int64) + (1 : Int64))), .second, .val (.long ((65536 : Int64) - (1 : Int64))), .second, .val (.int (0 : Int32)), .unset, .unset, .unset] [])) (fun _ ks => XS.goto X67.here hx rfl (pc0 := 294) (pc' := 333) rfl (hb hby at_294) (by decide) (by decide) ks) ?_
        exact J _ _ _ (own_R0 _ _ (65534) (65535) (by decide) (by decide) (by decide) (by decide) (by decide) (fun c q1 q2 => by unfold inS; omega))
    ·
      refine Dn.by (U' := T67.setTop (mkF m 297 #[.val (.int p0), .val (.int p1), .val (.long q2), .second, .val (.ref b1), .val (.ref b35), .val (.int sg), .unset, .unset, .unset, .unset, .unset, .unset, .unset, .unset] [])) (fun _ ks => XS.icmpYes X67.here hx rfl (pc0 := 264) (pc' := 297) rfl (hb hby at_264) rfl (flt c264_105).2.1 (by decide) (by decide) ks) ?_
      refine Dn.by (U' := T67.setTop (mkF m 299 #[.val (.int p0), .val (.int p1), .val (.long q2), .second, .val (.ref b1), .val (.ref b35), .val (.int sg), .unset, .unset, .unset, .unset, .unset, .unset, .unset, .unset] [(.int sg)])) (fun _ ks => XS.iload X67.here hx rfl (hb hby at_297) rfl ks) ?_
      refine Dn.by (U' := T67.setTop (mkF m 301 #[.val (.int p0), .val (.int p1), .val (.long q2), .second, .val (.ref b1), .val (.ref b35), .val (.int sg), .unset, .unset, .unset, .unset, .unset, .unset, .unset, .unset] [(.int (31 : Int32)), (.int sg)])) (fun _ ks => XS.bipush X67.here hx rfl (hb hby at_299)  ks) ?_
      by_cases c301_136 : sg = (31 : Int32)
      ·
        refine Dn.by (U' := T67.setTop (mkF m 304 #[.val (.int p0), .val (.int p1), .val (.long q2), .second, .val (.ref b1), .val (.ref b35), .val (.int sg), .unset, .unset, .unset, .unset, .unset, .unset, .unset, .unset] [])) (fun _ ks => XS.icmpNo X67.here hx rfl (hb hby at_301) rfl (teq c301_136).2 ks) ?_
        refine Dn.by (U' := T67.setTop (mkF m 307 #[.val (.int p0), .val (.int p1), .val (.long q2), .second, .val (.ref b1), .val (.ref b35), .val (.int sg), .unset, .unset, .unset, .unset, .unset, .unset, .unset, .unset] [(.long (-2147483648 : Int64))])) (X67.ldc2Long hx hown (mvT hZ (hw _ (List.mem_of_getElem? (i := 44) rfl))) (g := (mkF m 304 #[.val (.int p0), .val (.int p1), .val (.long q2), .second, .val (.ref b1), .val (.ref b35), .val (.int sg), .unset, .unset, .unset, .unset, .unset, .unset, .unset, .unset] [])) rfl (hb hby at_304)) ?_
        refine Dn.by (U' := T67.setTop (mkF m 309 #[.val (.int p0), .val (.int p1), .val (.long q2), .second, .val (.ref b1), .val (.ref b35), .val (.int sg), .val (.long (-2147483648 : Int64)), .second, .unset, .unset, .unset, .unset, .unset, .unset] [])) (fun _ ks => XS.lstore X67.here hx rfl (hb hby at_307) rfl (l' := #[.val (.int p0), .val (.int p1), .val (.long q2), .second, .val (.ref b1), .val (.ref b35), .val (.int sg), .val (.long (-2147483648 : Int64)), .second, .unset, .unset, .unset, .unset, .unset, .unset]) rfl ks) ?_
        refine Dn.by (U' := T67.setTop (mkF m 312 #[.val (.int p0), .val (.int p1), .val (.long q2), .second, .val (.ref b1), .val (.ref b35), .val (.int sg), .val (.long (-2147483648 : Int64)), .second, .unset, .unset, .unset, .unset, .unset, .unset] [(.long (57 : Int64))])) (X67.ldc2Long hx hown (mvT hZ (hw _ (List.mem_of_getElem? (i := 45) rfl))) (g := (mkF m 309 #[.val (.int p0), .val (.int p1), .val (.long q2), .second, .val (.ref b1), .val (.ref b35), .val (.int sg), .val (.long (-2147483648 : Int64)), .second, .unset, .unset, .unset, .unset, .unset, .unset] [])) rfl (hb hby at_309)) ?_
        refine Dn.by (U' := T67.setTop (mkF m 314 #[.val (.int p0), .val (.int p1), .val (.long q2), .second, .val (.ref b1), .val (.ref b35), .val (.int sg), .val (.long (-2147483648 : Int64)), .second, .val (.long (57 : Int64)), .second, .unset, .unset, .unset, .unset] [])) (fun _ ks => XS.lstore X67.here hx rfl (hb hby at_312) rfl (l' := #[.val (.int p0), .val (.int p1), .val (.long q2), .second, .val (.ref b1), .val (.ref b35), .val (.int sg), .val (.long (-2147483648 : Int64)), .second, .val (.long (57 : Int64)), .second, .unset, .unset, .unset, .unset]) rfl ks) ?_
        refine Dn.by (U' := T67.setTop (mkF m 315 #[.val (.int p0), .val (.int p1), .val (.long q2), .second, .val (.ref b1), .val (.ref b35), .val (.int sg), .val (.long (-2147483648 : Int64)), .second, .val (.long (57 : Int64)), .second, .unset, .unset, .unset, .unset] [(.int (0 : Int32))])) (fun _ ks => XS.iconst X67.here hx rfl (hb hby at_314)  ks) ?_
        refine Dn.by (U' := T67.setTop (mkF m 317 #[.val (.int p0), .val (.int p1), .val (.long q2), .second, .val (.ref b1), .val (.ref b35), .val (.int sg), .val (.long (-2147483648 : Int64)), .second, .val (.long (57 : Int64)), .second, .val (.int (0 : Int32)), .unset, .unset, .unset] [])) (fun _ ks => XS.istore X67.here hx rfl (hb hby at_315) rfl (l' := #[.val (.int p0), .val (.int p1), .val (.long q2), .second, .val (.ref b1), .val (.ref b35), .val (.int sg), .val (.long (-2147483648 : Int64)), .second, .val (.long (57 : Int64)), .second, .val (.int (0 : Int32)), .unset, .unset, .unset]) rfl ks) ?_
        refine Dn.by (U' := T67.setTop (mkF m 333 #[.val (.int p0), .val (.int p1), .val (.long q2), .second, .val (.ref b1), .val (.ref b35), .val (.int sg), .val (.long (-2147483648 : Int64)), .second, .val (.long (57 : Int64)), .second, .val (.int (0 : Int32)), .unset, .unset, .unset] [])) (fun _ ks => XS.goto X67.here hx rfl (pc0 := 317) (pc' := 333) rfl (hb hby at_317) (by decide) (by decide) ks) ?_
        exact J _ _ _ (own_R0 _ _ (-2147483648) (57) (by decide) (by decide) (by decide) (by decide) (by decide) (fun c q1 q2 => by unfold inS; omega))
      ·
        refine Dn.by (U' := T67.setTop (mkF m 320 #[.val (.int p0), .val (.int p1), .val (.long q2), .second, .val (.ref b1), .val (.ref b35), .val (.int sg), .unset, .unset, .unset, .unset, .unset, .unset, .unset, .unset] [])) (fun _ ks => XS.icmpYes X67.here hx rfl (pc0 := 301) (pc' := 320) rfl (hb hby at_301) rfl (feq c301_136).2 (by decide) (by decide) ks) ?_
        refine Dn.by (U' := T67.setTop (mkF m 323 #[.val (.int p0), .val (.int p1), .val (.long q2), .second, .val (.ref b1), .val (.ref b35), .val (.int sg), .unset, .unset, .unset, .unset, .unset, .unset, .unset, .unset] [(.long (983040 : Int64))])) (X67.ldc2Long hx hown (mvT hZ (hw _ (List.mem_of_getElem? (i := 46) rfl))) (g := (mkF m 320 #[.val (.int p0), .val (.int p1), .val (.long q2), .second, .val (.ref b1), .val (.ref b35), .val (.int sg), .unset, .unset, .unset, .unset, .unset, .unset, .unset, .unset] [])) rfl (hb hby at_320)) ?_
        refine Dn.by (U' := T67.setTop (mkF m 325 #[.val (.int p0), .val (.int p1), .val (.long q2), .second, .val (.ref b1), .val (.ref b35), .val (.int sg), .val (.long (983040 : Int64)), .second, .unset, .unset, .unset, .unset, .unset, .unset] [])) (fun _ ks => XS.lstore X67.here hx rfl (hb hby at_323) rfl (l' := #[.val (.int p0), .val (.int p1), .val (.long q2), .second, .val (.ref b1), .val (.ref b35), .val (.int sg), .val (.long (983040 : Int64)), .second, .unset, .unset, .unset, .unset, .unset, .unset]) rfl ks) ?_
        refine Dn.by (U' := T67.setTop (mkF m 328 #[.val (.int p0), .val (.int p1), .val (.long q2), .second, .val (.ref b1), .val (.ref b35), .val (.int sg), .val (.long (983040 : Int64)), .second, .unset, .unset, .unset, .unset, .unset, .unset] [(.long (2147483647 : Int64))])) (X67.ldc2Long hx hown (mvT hZ (hw _ (List.mem_of_getElem? (i := 47) rfl))) (g := (mkF m 325 #[.val (.int p0), .val (.int p1), .val (.long q2), .second, .val (.ref b1), .val (.ref b35), .val (.int sg), .val (.long (983040 : Int64)), .second, .unset, .unset, .unset, .unset, .unset, .unset] [])) rfl (hb hby at_325)) ?_
        refine Dn.by (U' := T67.setTop (mkF m 330 #[.val (.int p0), .val (.int p1), .val (.long q2), .second, .val (.ref b1), .val (.ref b35), .val (.int sg), .val (.long (983040 : Int64)), .second, .val (.long (2147483647 : Int64)), .second, .unset, .unset, .unset, .unset] [])) (fun _ ks => XS.lstore X67.here hx rfl (hb hby at_328) rfl (l' := #[.val (.int p0), .val (.int p1), .val (.long q2), .second, .val (.ref b1), .val (.ref b35), .val (.int sg), .val (.long (983040 : Int64)), .second, .val (.long (2147483647 : Int64)), .second, .unset, .unset, .unset, .unset]) rfl ks) ?_
        refine Dn.by (U' := T67.setTop (mkF m 331 #[.val (.int p0), .val (.int p1), .val (.long q2), .second, .val (.ref b1), .val (.ref b35), .val (.int sg), .val (.long (983040 : Int64)), .second, .val (.long (2147483647 : Int64)), .second, .unset, .unset, .unset, .unset] [(.int (0 : Int32))])) (fun _ ks => XS.iconst X67.here hx rfl (hb hby at_330)  ks) ?_
        refine Dn.by (U' := T67.setTop (mkF m 333 #[.val (.int p0), .val (.int p1), .val (.long q2), .second, .val (.ref b1), .val (.ref b35), .val (.int sg), .val (.long (983040 : Int64)), .second, .val (.long (2147483647 : Int64)), .second, .val (.int (0 : Int32)), .unset, .unset, .unset] [])) (fun _ ks => XS.istore X67.here hx rfl (hb hby at_331) rfl (l' := #[.val (.int p0), .val (.int p1), .val (.long q2), .second, .val (.ref b1), .val (.ref b35), .val (.int sg), .val (.long (983040 : Int64)), .second, .val (.long (2147483647 : Int64)), .second, .val (.int (0 : Int32)), .unset, .unset, .unset]) rfl ks) ?_
        exact J _ _ _ (own_R0 _ _ (983040) (2147483647) (by decide) (by decide) (by decide) (by decide) (by decide) (fun c q1 q2 => by unfold inS; omega))
set_option maxRecDepth 65536 in
set_option maxHeartbeats 40000000 in
theorem comes_1 {Post : Tables → Env → Array Value → State → Outcome → State → Prop} (hpost : ∀ tb e args s v u, (limb_1_1.after args s (.returned v) u = true ∧ limb_1_2.after args s (.returned v) u = true ∧ True) → FrameEnd s (.returned v) u (Jvm.fieldLocs frame_1_writes args s ++ Jvm.arrayLocs frame_1_arrays args s ++ Jvm.staticLocs frame_1_statics s) 16 128 → Post tb e args s (.returned v) u) :
    ArmFor flags0 classFile x code maxLocals ret World_1 tables_1 room_1 Calls_1 rest_1 Pre_1 Post := by
  intro l hfl _ _ p e ha hc hk s m args below hf hA hF happ hP
  obtain ⟨hcalls, hrest, hpre⟩ := hP
  obtain ⟨-, -, -, hnamed, -, -, -, hat⟩ := (Spec.applies_iff hf).mp happ
  obtain ⟨hg, hn⟩ := and_e (Cond.before_iff.mp (show (Jvm.Cond.and given_1 narrow_1).before args s = true from hpre))
  obtain ⟨gg1, gg2⟩ := and_e hg
  obtain ⟨gg3, gg4⟩ := and_e gg2
  obtain ⟨gg5, gg6⟩ := and_e gg4
  obtain ⟨w0, w1, w2, rfl⟩ : ∃ w0 w1 w2 : Value, args = #[w0, w1, w2] := by
    have hs : args.size = 3 := by simpa [Cond.value, given_1] using gg1
    obtain ⟨L⟩ := args
    match L, hs with
    | [w0, w1, w2], _ => exact ⟨w0, w1, w2, rfl⟩
  have hw := fun d (hd : d ∈ tables_1) => atoms_spec (ws := Jvm.Cond.code x code maxLocals ret :: tables_1) hat d (List.mem_cons_of_mem _ hd)
  have hfit : Fit s := fun {y c} hc i hi => by
    obtain ⟨ha, rfl⟩ := Array.getElem?_eq_some_iff.mp hc
    have q := List.all_eq_true.mp ((Array.all_eq_true_iff_forall_mem.mp hF) _ (Array.getElem_mem ha)) i (List.mem_range.mpr hi)
    simpa [Array.getElem?_eq_getElem hi] using q
  obtain ⟨i0, ei0⟩ := is_v gg3
  obtain rfl : w0 = (.int i0) := Option.some.inj ei0
  obtain ⟨i1, ei1⟩ := is_v gg5
  obtain rfl : w1 = (.int i1) := Option.some.inj ei1
  obtain ⟨i2, ei2⟩ := isL_v gg6
  obtain rfl : w2 = (.long i2) := Option.some.inj ei2
  obtain ⟨n, o, h1, h2, h3, _, L, rfl, ⟨rfl, N⟩, hq⟩ := rm0 l s _ hw tables_1 i0 i1 i2  s.heap s.heap.size (Nat.le_refl _)  p e ha hc hk s m _ below hf ((Spec.applies_iff_loose hf).mp happ).1 ⟨rfl, State.Warmed39.refl s, rfl⟩ trivial
  refine ⟨n, _, h1, h2, h3, hpost _ _ _ _ _ _ ⟨Cond.after_iff.mpr rfl, Cond.after_iff.mpr (eq_i res_at (Term.int_eval (1)) rfl), trivial⟩ ⟨hq.1, hq.2.1, (hq.2.2.sift fun y hy => Or.inr (N y hy)).mono (by decide) (by decide)⟩⟩
theorem main_1_1 : Claimed_1_1 := comes_1 fun _ _ _ _ _ _ h hF => ⟨h.1, hF⟩
theorem main_1_2 : Claimed_1_2 := comes_1 fun _ _ _ _ _ _ h hF => ⟨h.2.1, hF⟩
end Jvm.Pilot.@@N@@
namespace Jvm.Pilot.@@N@@
open Jvm Jvm.ClassFile Sem Op Lib Jvm.Free Jvm.Stand Jvm.Pilot.@@N@@.Jvm.D
/-! MADE BY PROGRAM (witnessworld.py) out of the Statement's table words and the real class files: 11 classes; the members and pool entries that the words name. The judged class is class 1, her method 1. -/
namespace start1
open Jvm.ClassFile
def u (s : String) : CpInfo := .utf8 (stringToUtf16 s)
/-- a pool by its gaps: so many unusable entries, then the entry; so many at the end -/
def gap : Nat → List CpInfo → List CpInfo
  | 0, r => r
  | n + 1, r => .unusable :: gap n r
def poolList (es : List (Nat × CpInfo)) (last : Nat) : List CpInfo := es.foldr (fun e r => gap e.1 (e.2 :: r)) (gap last [])
def pool (es : List (Nat × CpInfo)) (last : Nat) : Array CpInfo := ⟨poolList es last⟩
def fileOf (pool : Array CpInfo) (this : Nat) (attrs : Array Attribute := #[]) (ms : Array MethodInfo := #[]) (fl : Nat := 33) (sup : Nat := 0) (ifs : Array Nat := #[]) (fds : Array FieldInfo := #[]) : ClassFile where
  minorVersion := 0
  majorVersion := 65
  constantPool := pool
  accessFlags := fl
  thisClass := this
  superClass := sup
  interfaces := ifs
  fields := fds
  methods := ms
  attributes := attrs
def plain (name : String) (sup : Option ClassId) : Class where
  name := name
  kind := .ordinary
  loader := none
  accessFlags := 33
  super := sup
  interfaces := #[]
  cf := none
  fields := #[]
  methods := #[]
  instanceTypes := #[]
  staticTypes := #[]
  resolved := #[]
  callSites := []
  init := .initialized
  statics := none
  mirror := none

def pool0 : Array CpInfo := pool [(5, u "<init>"), (0, u "()V"), (1, .class_ 10), (1, u "java/lang/Object")] 113

def k0m0 : Method := { name := "<init>", desc := "()V", sig := { parameters := [], returnType := none }, accessFlags := 1, code := none }
/-- java/lang/Object -/
def k0 : Class := { plain "java/lang/Object" none with
  accessFlags := 33
  interfaces := #[]
  cf := some (fileOf pool0 8 #[] #[{ accessFlags := 1, nameIndex := 5, descriptorIndex := 6, attributes := #[] }] 33 0 #[] #[])
  fields := #[]
  methods := #[k0m0]
  instanceTypes := #[]
  staticTypes := #[]
  resolved := Array.replicate 124 none
  statics := none }

def pool1 : Array CpInfo := pool [(2, .class_ 4), (1, u "java/lang/Object"), (0, u "<init>"), (0, u "()V"), (0, .long 58), (1, .long 65), (1, .long 95), (1, .long 97), (1, .long 192), (1, .long 216), (1, .long 248), (1, .long 880), (1, .long 895), (1, .long 8204), (1, .long 8304), (1, .long 11264), (1, .long 12289), (1, .long 63744), (1, .long 65008), (1, .long 65536), (1, .long 90), (1, .long 122), (1, .long 214), (1, .long 246), (1, .long 767), (1, .long 893), (1, .long 8191), (1, .long 8205), (1, .long 8591), (1, .long 12271), (1, .long 55295), (1, .long 64975), (1, .long 65533), (1, .long 983039), (1, .integer 2147483647), (2, .long 18446744071562067968), (1, .long 57), (1, .long 983040), (1, .long 2147483647), (3, .long 9223372036854775807), (1, .methodref 83 84), (0, .class_ 85), (0, .nameAndType 86 87), (0, u "com/example/osprey/osprey/pointer/FifthEdition"), (0, u "isNameStartChar"), (0, u "(I)Z"), (0, .class_ 89), (0, u "com/example/osprey/osprey/pointer/FifthEditionIsNameStartCharPinLaw"), (2, u "law"), (0, u "(IIJ)Z")] 5

def k1m0 : Method := { name := "<init>", desc := "()V", sig := { parameters := [], returnType := none }, accessFlags := 1, code := none }
def k1c1 : Code := { maxStack := 8, maxLocals := 15, code := code, exceptionTable := #[], attributes := #[] }
def k1m1 : Method := { name := "law", desc := "(IIJ)Z", sig := { parameters := [.int, .int, .long], returnType := some .boolean }, accessFlags := 9, code := some k1c1 }
/-- com/example/osprey/osprey/pointer/FifthEditionIsNameStartCharPinLaw -/
def k1 : Class := { plain "com/example/osprey/osprey/pointer/FifthEditionIsNameStartCharPinLaw" (some 0) with
  accessFlags := 49
  interfaces := #[]
  cf := some (fileOf pool1 88 #[] #[{ accessFlags := 1, nameIndex := 5, descriptorIndex := 6, attributes := #[] }, { accessFlags := 9, nameIndex := 92, descriptorIndex := 93, attributes := #[] }] 49 2 #[] #[])
  fields := #[]
  methods := #[k1m0, k1m1]
  instanceTypes := #[]
  staticTypes := #[]
  resolved := Array.replicate 99 none
  statics := none }

def pool2 : Array CpInfo := pool [(1, .class_ 2), (0, u "com/example/osprey/osprey/pointer/FifthEdition"), (1, .class_ 6), (1, u "java/lang/Object"), (0, u "<init>"), (0, u "()V"), (2, u "decoded"), (0, u "[C"), (2, u "pending"), (1, .class_ 19), (1, u "com/example/osprey/osprey/pointer/FifthEdition$Declaration"), (8, u "on"), (0, u "Z"), (11, u "escaped"), (0, .integer 55295), (0, .integer 63744), (0, .integer 64975), (0, .integer 65008), (0, .integer 65533), (0, .integer 65536), (0, .integer 983039), (2, u "isNameStartChar"), (0, u "(I)Z"), (2, u "VERSION_1"), (0, u "Ljava/util/regex/Pattern;"), (54, u "pendingLength"), (0, u "I"), (32, u "decodedLength"), (96, u "START_ESCAPE"), (0, u "C"), (1, u "PART_ESCAPE"), (1, u "SHIELD"), (0, u "DIGITS"), (1, u "ESCAPE_LENGTH")] 22

def k2m0 : Method := { name := "<init>", desc := "()V", sig := { parameters := [], returnType := none }, accessFlags := 0, code := none }
def k2c1 : Code := { maxStack := 2, maxLocals := 1, code := prog_59_method_7_code, exceptionTable := #[], attributes := #[] }
def k2m1 : Method := { name := "isNameStartChar", desc := "(I)Z", sig := { parameters := [.int], returnType := some .boolean }, accessFlags := 8, code := some k2c1 }
/-- com/example/osprey/osprey/pointer/FifthEdition -/
def k2 : Class := { plain "com/example/osprey/osprey/pointer/FifthEdition" (some 0) with
  accessFlags := 48
  interfaces := #[]
  cf := some (fileOf pool2 1 #[.nestMembers #[17]] #[{ accessFlags := 0, nameIndex := 7, descriptorIndex := 8, attributes := #[] }, { accessFlags := 8, nameIndex := 51, descriptorIndex := 52, attributes := #[] }] 48 4 #[] #[{ accessFlags := 24, nameIndex := 242, descriptorIndex := 243, attributes := #[] }, { accessFlags := 24, nameIndex := 245, descriptorIndex := 243, attributes := #[] }, { accessFlags := 24, nameIndex := 247, descriptorIndex := 243, attributes := #[] }, { accessFlags := 24, nameIndex := 248, descriptorIndex := 112, attributes := #[] }, { accessFlags := 24, nameIndex := 250, descriptorIndex := 112, attributes := #[] }, { accessFlags := 26, nameIndex := 55, descriptorIndex := 56, attributes := #[] }, { accessFlags := 2, nameIndex := 28, descriptorIndex := 29, attributes := #[] }, { accessFlags := 2, nameIndex := 41, descriptorIndex := 29, attributes := #[] }, { accessFlags := 2, nameIndex := 11, descriptorIndex := 12, attributes := #[] }, { accessFlags := 2, nameIndex := 145, descriptorIndex := 112, attributes := #[] }, { accessFlags := 18, nameIndex := 15, descriptorIndex := 12, attributes := #[] }, { accessFlags := 2, nameIndex := 111, descriptorIndex := 112, attributes := #[] }])
  fields := #[{ name := "START_ESCAPE", type := .char, accessFlags := 24, slot := 0, constantValue := 0 }, { name := "PART_ESCAPE", type := .char, accessFlags := 24, slot := 1, constantValue := 0 }, { name := "SHIELD", type := .char, accessFlags := 24, slot := 2, constantValue := 0 }, { name := "DIGITS", type := .int, accessFlags := 24, slot := 3, constantValue := 0 }, { name := "ESCAPE_LENGTH", type := .int, accessFlags := 24, slot := 4, constantValue := 0 }, { name := "VERSION_1", type := (.object "java/util/regex/Pattern"), accessFlags := 26, slot := 5, constantValue := 0 }, { name := "on", type := .boolean, accessFlags := 2, slot := 0, constantValue := 0 }, { name := "escaped", type := .boolean, accessFlags := 2, slot := 1, constantValue := 0 }, { name := "decoded", type := (.array .char), accessFlags := 2, slot := 2, constantValue := 0 }, { name := "decodedLength", type := .int, accessFlags := 2, slot := 3, constantValue := 0 }, { name := "pending", type := (.array .char), accessFlags := 18, slot := 4, constantValue := 0 }, { name := "pendingLength", type := .int, accessFlags := 2, slot := 5, constantValue := 0 }]
  methods := #[k2m0, k2m1]
  instanceTypes := #[.boolean, .boolean, (.array .char), .int, (.array .char), .int]
  staticTypes := #[.char, .char, .char, .int, .int, (.object "java/util/regex/Pattern")]
  resolved := Array.replicate 273 none
  statics := none }

def pool3 : Array CpInfo := pool [(1, u "java/lang/Cloneable"), (0, .class_ 1), (0, u "java/lang/Object"), (0, .class_ 3)] 3

/-- java/lang/Cloneable -/
def k3 : Class := { plain "java/lang/Cloneable" (some 0) with
  accessFlags := 1537
  interfaces := #[]
  cf := some (fileOf pool3 2 #[] #[] 1537 4 #[] #[])
  fields := #[]
  methods := #[]
  instanceTypes := #[]
  staticTypes := #[]
  resolved := Array.replicate 8 none
  statics := none }

def pool4 : Array CpInfo := pool [(1, u "java/io/Serializable"), (0, .class_ 1), (0, u "java/lang/Object"), (0, .class_ 3)] 3

/-- java/io/Serializable -/
def k4 : Class := { plain "java/io/Serializable" (some 0) with
  accessFlags := 1537
  interfaces := #[]
  cf := some (fileOf pool4 2 #[] #[] 1537 4 #[] #[])
  fields := #[]
  methods := #[]
  instanceTypes := #[]
  staticTypes := #[]
  resolved := Array.replicate 8 none
  statics := none }

/-- the primitive byte -/
def k5 : Class := { plain "byte" none with kind := .primitive 'B', accessFlags := 0x411 }
/-- [B -/
def k6 : Class := { plain "[B" (some 0) with kind := .array 5 .byte, interfaces := #[3, 4], accessFlags := 1041 }

/-- the primitive int -/
def k7 : Class := { plain "int" none with kind := .primitive 'I', accessFlags := 0x411 }
/-- [I -/
def k8 : Class := { plain "[I" (some 0) with kind := .array 7 .int, interfaces := #[3, 4], accessFlags := 1041 }

/-- the primitive long -/
def k9 : Class := { plain "long" none with kind := .primitive 'J', accessFlags := 0x411 }
/-- [J -/
def k10 : Class := { plain "[J" (some 0) with kind := .array 9 .long, interfaces := #[3, 4], accessFlags := 1041 }

def heap : Heap := #[]
def classes : Array Class := #[k0, k1, k2, k3, k4, k5, k6, k7, k8, k9, k10]
def interned : List (Array UInt16 × Addr) := []
def slotsUsed : Nat := 0
def theMethod : MethodId := ⟨1, 1⟩
def args0 : Array Value := #[.int 5, .int 1, .long 7]
def aboutOver (below : List Frame) : State where
  vm := { classes := classes, interned := interned.toArray }
  heap := heap
  slotsUsed := slotsUsed
  threads := #[{ frames := .invoking theMethod args0 :: below }]
def below0 : List Frame := [.native { method := ⟨0, 0⟩, args := #[] }]
def about1 : State := aboutOver below0
def p0 : Program := .bare "" "" ""
def e0 : Env := launch0.env 0 0 0
theorem w_frames : about1.frames = Frame.invoking theMethod args0 :: below0 := rfl
set_option maxRecDepth 65536 in
theorem w_args : argsFit about1.vm theMethod args0 = true := by decide +kernel
set_option maxRecDepth 65536 in
theorem w_heap : heapFits about1 = true := by decide +kernel
set_option maxRecDepth 65536 in
theorem w_runnable : about1.curStatus? = some .runnable := by decide +kernel
set_option maxRecDepth 65536 in
theorem w_alone : about1.alone = true := by decide +kernel
set_option maxRecDepth 65536 in
theorem w_named : about1.methodNamed? x = some theMethod := by decide +kernel
set_option maxRecDepth 65536 in
theorem w_hears : about1.hears theMethod below0 = true := by decide +kernel
set_option maxRecDepth 65536 in
theorem w_ripe : about1.ripe theMethod args0 below0 = true := by decide +kernel
theorem w_running : about1.status = .running := rfl
set_option maxRecDepth 65536 in
theorem w_room : about1.hasRoom e0.platform room_1 = true :=
  launch0.hasRoom_least _ room_1 (by decide +kernel) (by decide +kernel) (by decide +kernel) (by decide +kernel) (by decide +kernel) (by decide +kernel)
theorem allAtoms_all (ts : List Jvm.Cond) (a : Array Jvm.Value) (st : Jvm.State) : (allAtoms ts).before a st = ts.all (fun c => c.before a st) := by
  induction ts with
  | nil => rfl
  | cons c t ih =>
    show (Jvm.Cond.and c (allAtoms t)).before a st = _
    rw [Jvm.Cond.before_and, ih, List.all_cons]
def words1 : List Jvm.Cond := Jvm.Cond.code x code maxLocals ret :: tables_1
/-- a 'code' word, met by the world's own term for the bytes: nothing is compared byte by byte -/
theorem code_word {y : MethodName} {bytes : ByteArray} {mx : Nat} {rt : Option FieldType} {a : Array Value} {s : State} {m : MethodId} {meth : Method} {c : Code} (h1 : s.methodNamed? y = some m) (h2 : s.vm.method? m = some meth) (h3 : meth.code = some c) (h4 : c.code = bytes)
    (h5 : (c.maxLocals == mx && c.exceptionTable.isEmpty && decide (c.maxStack ≤ mostOperands) && decide (meth.sig.returnType = rt) && !meth.locks && decide (parseMethodDescriptor y.desc = some meth.sig)) = true) : (Jvm.Cond.code y bytes mx rt).before a s = true := by
  simp only [Bool.and_eq_true, beq_iff_eq, Bool.not_eq_true', decide_eq_true_eq] at h5
  obtain ⟨⟨⟨⟨⟨g1, g2⟩, g3⟩, g4⟩, g5⟩, g6⟩ := h5
  simp [Cond.before, Cond.holds, Cond.value, h1, h2, h3, h4, g1, g2, g3, g4, g5, g6]
def isCode : Jvm.Cond → Bool
  | .code _ _ _ _ => true
  | _ => false
theorem all_split {L : List Jvm.Cond} {P : Jvm.Cond → Bool} (h1 : L.all (fun c => isCode c || P c) = true) (h2 : ∀ c ∈ L.filter isCode, P c = true) : L.all P = true := by
  refine List.all_eq_true.mpr fun c hc => ?_
  have h := List.all_eq_true.mp h1 c hc
  rcases Bool.eq_false_or_eq_true (isCode c) with hi | hi
  · exact h2 c (List.mem_filter.mpr ⟨hc, hi⟩)
  · simpa [hi] using h
set_option maxRecDepth 65536 in
theorem w_c0 : (Jvm.Cond.code x code maxLocals ret).before args0 about1 = true := code_word (m := ⟨1, 1⟩) (meth := k1m1) (c := k1c1) (by decide +kernel) rfl rfl rfl (by decide +kernel)
set_option maxRecDepth 65536 in
theorem w_c1 : (Jvm.Cond.code ({ cls := "com/example/osprey/osprey/pointer/FifthEdition", name := "isNameStartChar", desc := "(I)Z" } : Jvm.MethodName) prog_59_method_7_code (1 : Nat) (Option.some Jvm.ClassFile.FieldType.boolean)).before args0 about1 = true := code_word (m := ⟨2, 1⟩) (meth := k2m1) (c := k2c1) (by decide +kernel) rfl rfl rfl (by decide +kernel)
def codes1 : List Jvm.Cond := [Jvm.Cond.code x code maxLocals ret, Jvm.Cond.code ({ cls := "com/example/osprey/osprey/pointer/FifthEdition", name := "isNameStartChar", desc := "(I)Z" } : Jvm.MethodName) prog_59_method_7_code (1 : Nat) (Option.some Jvm.ClassFile.FieldType.boolean)]
set_option maxRecDepth 65536 in
theorem codes_eq : words1.filter isCode = codes1 := rfl
theorem w_codes : ∀ c ∈ words1.filter isCode, c.before args0 about1 = true := by
  rw [codes_eq]
  intro c hc
  simp only [codes1, List.mem_cons, List.not_mem_nil, or_false] at hc
  rcases hc with rfl | rfl
  · exact w_c0
  · exact w_c1
set_option maxRecDepth 65536 in
theorem w_t1 : (words1.take 24).all (fun c => isCode c || c.before args0 about1) = true := by decide +kernel
set_option maxRecDepth 65536 in
theorem w_t2 : ((words1.drop 24).take 24).all (fun c => isCode c || c.before args0 about1) = true := by decide +kernel
set_option maxRecDepth 65536 in
theorem w_t3 : ((words1.drop 24).drop 24).all (fun c => isCode c || c.before args0 about1) = true := by decide +kernel
theorem w_tables : (allAtoms (Jvm.Cond.code x code maxLocals ret :: tables_1)).before args0 about1 = true := by
  rw [allAtoms_all]
  show words1.all (fun c => c.before args0 about1) = true
  refine all_split ?_ w_codes
  rw [← List.take_append_drop 24 words1, List.all_append, w_t1, ← List.take_append_drop 24 (words1.drop 24), List.all_append, w_t2, w_t3]
  rfl
set_option maxRecDepth 65536 in
theorem w_case : (Jvm.Cond.and given_1 narrow_1).before args0 about1 = true := by decide +kernel
theorem w_applies : (headSpec (Jvm.Cond.code x code maxLocals ret :: tables_1) room_1).applies x e0.platform about1 = true :=
  (Spec.applies_iff w_frames).mpr ⟨w_running, w_runnable, w_alone, w_named, w_hears, w_ripe, w_room, w_tables⟩
theorem atStart : AtStart classFile x code maxLocals ret World_1 tables_1 room_1 Calls_1 rest_1 Pre_1 launch0 p0 e0 about1 theMethod args0 below0 :=
  ⟨lists_1, trivial, launch0.admits_env _ _ _, launch0.least_env, fairChoices_fair.cas, fairChoices_fair.clock, w_frames, w_args, w_heap, w_applies, trivial, trivial, w_case⟩
end start1
theorem witness_1 : WitnessClaimed_1 := ⟨start1.p0, start1.e0, start1.about1, start1.theMethod, start1.args0, start1.below0, start1.atStart⟩
end Jvm.Pilot.@@N@@
