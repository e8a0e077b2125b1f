import JvmDerived
import JvmDerived.Pilot.@@N@@Statement
import JvmDerived.Pilot.@@N@@Code
set_option linter.unusedVariables false
set_option linter.unusedSimpArgs false
namespace Jvm.Pilot.@@N@@
open Jvm Jvm.ClassFile Sem Op Lib Jvm.Free Jvm.Stand Jvm.LawKit Jvm.RoadKit Bundle Jvm.Pilot.@@N@@.Jvm.D
/-- from the state U the run comes to the method's end, where Q holds of what it returns, of the heap and of the places written -/
def Dn (p : Program) (e : Env) (below : List Frame) (s : State) (k n : Nat) (Q : Option Value → Heap → List Loc → Prop) (U : State) : Prop :=
  ∃ t o, Steps p.tables e below U t ∧ t.status = .running ∧ Ended t below o ∧ ∃ v L, o = .returned v ∧ Q v t.heap L ∧ FrameEnd s o t L k n
theorem Dn.by {p : Program} {e : Env} {below : List Frame} {s : State} {k n : Nat} {Q : Option Value → Heap → List Loc → Prop} {U U' : State} (st : ∀ t, Steps p.tables e below U' t → Steps p.tables e below U t) (h : Dn p e below s k n Q U') : Dn p e below s k n Q U := by
  obtain ⟨t, o, h1, h2⟩ := h
  exact ⟨t, o, st t h1, h2⟩
theorem Dn.out {p : Program} {l : Launch} {e : Env} {R : Room} {s : State} {m : MethodId} {args : Array Value} {below : List Frame} {meth : Method} {c : Code} {T : State} {locs : List Loc} {cells slots k n : Nat} {Q : Option Value → Heap → List Loc → Prop} {U : State} (X : Stand p l e R s m args below meth c T locs cells slots) {v : Option Value} (hv : meth.sig.returnType = none → v = none) (hlk : meth.locks = false)
    (st : ∀ fs, (∀ (f : JFrame) (acts : List Action), f.method = m → f.locked = none → f.entered = [] → (doReturn e (T.setTop f) acts v).1 = T.setFrames fs) → Steps p.tables e below U (T.setFrames fs)) (hk : cells ≤ k) (hn : slots ≤ n) (hQ : Q v T.heap locs) : Dn p e below s k n Q U := by
  obtain ⟨fs, hr, hrun, hended, hW, hsame⟩ := X.leave (v := v) hv hlk
  exact ⟨_, _, st fs hr, hrun, hended, v, locs, rfl, hQ, ⟨_, rfl⟩, hW, hsame.mono hk hn⟩
theorem pn0 : plainName "com/example/ferrywire/ferrywire/wire/CellKeys" = true := by first | (simp [plainName, overriddenIn]; done) | decide +kernel
theorem pn1 : plainName "com/example/ferrywire/ferrywire/wire/CellKeysValueLengthPinLaw" = true := by first | (simp [plainName, overriddenIn]; done) | decide +kernel
theorem pd0 : parseMethodDescriptor "(I)I" = some ⟨[.int], some .int⟩ := by decide +kernel
theorem d1_0 : decode prog_31_method_2_code 0 = .ok (.iload_n 0, 1) := by decide +kernel
theorem d1_1 : decode prog_31_method_2_code 1 = .ok (.tableswitch 142 1 20 #[95, 100, 106, 106, 112, 118, 95, 118, 112, 106, 124, 142, 142, 142, 124, 130, 142, 130, 118, 136], 95) := by decide +kernel
theorem d1_96 : decode prog_31_method_2_code 96 = .ok (.iconst 1, 1) := by decide +kernel
theorem d1_97 : decode prog_31_method_2_code 97 = .ok (.istore_n 1, 1) := by decide +kernel
theorem d1_98 : decode prog_31_method_2_code 98 = .ok (.goto 47, 3) := by decide +kernel
theorem d1_101 : decode prog_31_method_2_code 101 = .ok (.bipush 64, 2) := by decide +kernel
theorem d1_103 : decode prog_31_method_2_code 103 = .ok (.istore_n 1, 1) := by decide +kernel
theorem d1_104 : decode prog_31_method_2_code 104 = .ok (.goto 41, 3) := by decide +kernel
theorem d1_107 : decode prog_31_method_2_code 107 = .ok (.bipush 24, 2) := by decide +kernel
theorem d1_109 : decode prog_31_method_2_code 109 = .ok (.istore_n 1, 1) := by decide +kernel
theorem d1_110 : decode prog_31_method_2_code 110 = .ok (.goto 35, 3) := by decide +kernel
theorem d1_113 : decode prog_31_method_2_code 113 = .ok (.bipush 32, 2) := by decide +kernel
theorem d1_115 : decode prog_31_method_2_code 115 = .ok (.istore_n 1, 1) := by decide +kernel
theorem d1_116 : decode prog_31_method_2_code 116 = .ok (.goto 29, 3) := by decide +kernel
theorem d1_119 : decode prog_31_method_2_code 119 = .ok (.bipush 32, 2) := by decide +kernel
theorem d1_121 : decode prog_31_method_2_code 121 = .ok (.istore_n 1, 1) := by decide +kernel
theorem d1_122 : decode prog_31_method_2_code 122 = .ok (.goto 23, 3) := by decide +kernel
theorem d1_125 : decode prog_31_method_2_code 125 = .ok (.bipush 8, 2) := by decide +kernel
theorem d1_127 : decode prog_31_method_2_code 127 = .ok (.istore_n 1, 1) := by decide +kernel
theorem d1_128 : decode prog_31_method_2_code 128 = .ok (.goto 17, 3) := by decide +kernel
theorem d1_131 : decode prog_31_method_2_code 131 = .ok (.bipush 32, 2) := by decide +kernel
theorem d1_133 : decode prog_31_method_2_code 133 = .ok (.istore_n 1, 1) := by decide +kernel
theorem d1_134 : decode prog_31_method_2_code 134 = .ok (.goto 11, 3) := by decide +kernel
theorem d1_137 : decode prog_31_method_2_code 137 = .ok (.bipush 32, 2) := by decide +kernel
theorem d1_139 : decode prog_31_method_2_code 139 = .ok (.istore_n 1, 1) := by decide +kernel
theorem d1_140 : decode prog_31_method_2_code 140 = .ok (.goto 5, 3) := by decide +kernel
theorem d1_143 : decode prog_31_method_2_code 143 = .ok (.iconst (-1), 1) := by decide +kernel
theorem d1_144 : decode prog_31_method_2_code 144 = .ok (.istore_n 1, 1) := by decide +kernel
theorem d1_145 : decode prog_31_method_2_code 145 = .ok (.iload_n 1, 1) := by decide +kernel
theorem d1_146 : decode prog_31_method_2_code 146 = .ok (.ireturn, 1) := by decide +kernel
def vlen (p0 : Int32) : Int32 := (if p0 = (1 : Int32) then (1 : Int32) else (if p0 = (2 : Int32) then (64 : Int32) else (if p0 = (3 : Int32) then (24 : Int32) else (if p0 = (4 : Int32) then (24 : Int32) else (if p0 = (5 : Int32) then (32 : Int32) else (if p0 = (6 : Int32) then (32 : Int32) else (if p0 = (7 : Int32) then (1 : Int32) else (if p0 = (8 : Int32) then (32 : Int32) else (if p0 = (9 : Int32) then (32 : Int32) else (if p0 = (10 : Int32) then (24 : Int32) else (if p0 = (11 : Int32) then (8 : Int32) else (if p0 = (12 : Int32) then (-1 : Int32) else (if p0 = (13 : Int32) then (-1 : Int32) else (if p0 = (14 : Int32) then (-1 : Int32) else (if p0 = (15 : Int32) then (8 : Int32) else (if p0 = (16 : Int32) then (32 : Int32) else (if p0 = (17 : Int32) then (-1 : Int32) else (if p0 = (18 : Int32) then (32 : Int32) else (if p0 = (19 : Int32) then (32 : Int32) else (if p0 = (20 : Int32) then (32 : Int32) else (-1 : Int32)))))))))))))))))))))
abbrev Rm1 : Room := { frames := 0, cells := 0, slots := 0, locals := 0 }
theorem ef_1 (m : MethodId) (p0 : Int32) : entryFrame m #[(.int p0)] 2 = mkF m 0 #[.val (.int p0), .unset] [] := by first | (simp [entryFrame, mkF, argsToLocals, Value.category]; done) | rfl
def Q1 (Z : State) (p0 : Int32) (h0 : Heap) (n0 : Nat) (v : Option Value) (h : Heap) (L : List Loc) : Prop := v = some (.int (vlen p0)) ∧ Fr n0 L ∧ h = h0
set_option maxRecDepth 65536 in
set_option maxHeartbeats 40000000 in
theorem rm1 (l : Launch) (Z : State) (a0 : Array Value) (hw : ∀ d ∈ tables_1, d.before a0 Z = true) (ws : List Jvm.Cond) (p0 : Int32) (h0 : Heap) (n0 : Nat) (Z0 : n0 ≤ h0.size)  :
    MetFree l (⟨"com/example/ferrywire/ferrywire/wire/CellKeys", "valueLength", "(I)I"⟩ : MethodName) (head1 (Jvm.Cond.code (⟨"com/example/ferrywire/ferrywire/wire/CellKeys", "valueLength", "(I)I"⟩ : MethodName) prog_31_method_2_code 2 (some .int) :: ws) Rm1) (fun a U => a = #[(.int p0)] ∧ Z.Warmed39 U.vm ∧ U.heap = h0) (fun _ _ _ _ _ => True) (fun _ U o U' => ∃ v L, o = .returned v ∧ Q1 Z p0 h0 n0 v U'.heap L ∧ FrameEnd U o U' L Rm1.cells Rm1.slots) := by
  refine MetFree.of_bodySF (plainFor_of_name pn0) hisR ?_
  intro p e s m args below meth c s₁ Bd hml0 hP hK
  obtain ⟨rfl, hZ, hh⟩ := hP
  have hx := Bd.exec
  have hby := Bd.bytes
  have hml : c.maxLocals = 2 := hml0
  have hown : s.vm.findClass "com/example/ferrywire/ferrywire/wire/CellKeys" = some m.cls := findClass_of_methodNamed Bd.named
  have hnm := (name_of_methodNamed Bd.named Bd.method).1
  have X0 : Stand p l e Rm1 s m #[(.int p0)] below meth c s₁ [] 0 0 := Stand.of_body Bd
  have e0 : s₁.heap = h0 := by rw [← hh, Bd.state]; rfl
  have N0 := Fr.nil n0
  show Dn p e below s Rm1.cells Rm1.slots (Q1 Z p0 h0 n0) (s₁.setTop (entryFrame m #[(.int p0)] 2))
  rw [ef_1]
  refine Dn.by (U' := s₁.setTop (mkF m 1 #[.val (.int p0), .unset] [(.int p0)])) (fun _ ks => XS.iloadN X0.here hx rfl (hb hby d1_0) rfl ks) ?_
  by_cases w1_1 : p0 = (1 : Int32)
  ·
    refine Dn.by (U' := s₁.setTop (mkF m 96 #[.val (.int p0), .unset] [])) (fun _ ks => XS.tswIn X0.here hx rfl (pc0 := 1) (pc' := 96) (o := 95) rfl (hb hby d1_1) rfl (by rw [w1_1]; decide) (by rw [w1_1]; rfl) (by decide) (by decide) ks) ?_
    refine Dn.by (U' := s₁.setTop (mkF m 97 #[.val (.int p0), .unset] [(.int (1 : Int32))])) (fun _ ks => XS.iconst X0.here hx rfl (hb hby d1_96)  ks) ?_
    refine Dn.by (U' := s₁.setTop (mkF m 98 #[.val (.int p0), .val (.int (1 : Int32))] [])) (fun _ ks => XS.istoreN X0.here hx rfl (hb hby d1_97) rfl (l' := #[.val (.int p0), .val (.int (1 : Int32))]) rfl ks) ?_
    refine Dn.by (U' := s₁.setTop (mkF m 145 #[.val (.int p0), .val (.int (1 : Int32))] [])) (fun _ ks => XS.goto X0.here hx rfl (pc0 := 98) (pc' := 145) rfl (hb hby d1_98) (by decide) (by decide) ks) ?_
    refine Dn.by (U' := s₁.setTop (mkF m 146 #[.val (.int p0), .val (.int (1 : Int32))] [(.int (1 : Int32))])) (fun _ ks => XS.iloadN X0.here hx rfl (hb hby d1_145) rfl ks) ?_
    refine Dn.out X0 (v := (some (.int (1 : Int32)))) (fun h => by rw [Bd.returns] at h; cases h) (BodyLoose.notSynchronized Bd) (fun _ hr => retOut X0 hx Bd.returns rfl (Or.inl ⟨rfl, Or.inl rfl, _, rfl⟩) (hb hby d1_146) hr) (by decide) (by decide) ?_
    rw [e0]
    exact ⟨by simp only [vlen, if_pos w1_1], N0, rfl⟩
  by_cases w1_2 : p0 = (2 : Int32)
  ·
    refine Dn.by (U' := s₁.setTop (mkF m 101 #[.val (.int p0), .unset] [])) (fun _ ks => XS.tswIn X0.here hx rfl (pc0 := 1) (pc' := 101) (o := 100) rfl (hb hby d1_1) rfl (by rw [w1_2]; decide) (by rw [w1_2]; rfl) (by decide) (by decide) ks) ?_
    refine Dn.by (U' := s₁.setTop (mkF m 103 #[.val (.int p0), .unset] [(.int (64 : Int32))])) (fun _ ks => XS.bipush X0.here hx rfl (hb hby d1_101)  ks) ?_
    refine Dn.by (U' := s₁.setTop (mkF m 104 #[.val (.int p0), .val (.int (64 : Int32))] [])) (fun _ ks => XS.istoreN X0.here hx rfl (hb hby d1_103) rfl (l' := #[.val (.int p0), .val (.int (64 : Int32))]) rfl ks) ?_
    refine Dn.by (U' := s₁.setTop (mkF m 145 #[.val (.int p0), .val (.int (64 : Int32))] [])) (fun _ ks => XS.goto X0.here hx rfl (pc0 := 104) (pc' := 145) rfl (hb hby d1_104) (by decide) (by decide) ks) ?_
    refine Dn.by (U' := s₁.setTop (mkF m 146 #[.val (.int p0), .val (.int (64 : Int32))] [(.int (64 : Int32))])) (fun _ ks => XS.iloadN X0.here hx rfl (hb hby d1_145) rfl ks) ?_
    refine Dn.out X0 (v := (some (.int (64 : Int32)))) (fun h => by rw [Bd.returns] at h; cases h) (BodyLoose.notSynchronized Bd) (fun _ hr => retOut X0 hx Bd.returns rfl (Or.inl ⟨rfl, Or.inl rfl, _, rfl⟩) (hb hby d1_146) hr) (by decide) (by decide) ?_
    rw [e0]
    exact ⟨by simp only [vlen, if_neg w1_1, if_pos w1_2], N0, rfl⟩
  by_cases w1_3 : p0 = (3 : Int32)
  ·
    refine Dn.by (U' := s₁.setTop (mkF m 107 #[.val (.int p0), .unset] [])) (fun _ ks => XS.tswIn X0.here hx rfl (pc0 := 1) (pc' := 107) (o := 106) rfl (hb hby d1_1) rfl (by rw [w1_3]; decide) (by rw [w1_3]; rfl) (by decide) (by decide) ks) ?_
    refine Dn.by (U' := s₁.setTop (mkF m 109 #[.val (.int p0), .unset] [(.int (24 : Int32))])) (fun _ ks => XS.bipush X0.here hx rfl (hb hby d1_107)  ks) ?_
    refine Dn.by (U' := s₁.setTop (mkF m 110 #[.val (.int p0), .val (.int (24 : Int32))] [])) (fun _ ks => XS.istoreN X0.here hx rfl (hb hby d1_109) rfl (l' := #[.val (.int p0), .val (.int (24 : Int32))]) rfl ks) ?_
    refine Dn.by (U' := s₁.setTop (mkF m 145 #[.val (.int p0), .val (.int (24 : Int32))] [])) (fun _ ks => XS.goto X0.here hx rfl (pc0 := 110) (pc' := 145) rfl (hb hby d1_110) (by decide) (by decide) ks) ?_
    refine Dn.by (U' := s₁.setTop (mkF m 146 #[.val (.int p0), .val (.int (24 : Int32))] [(.int (24 : Int32))])) (fun _ ks => XS.iloadN X0.here hx rfl (hb hby d1_145) rfl ks) ?_
    refine Dn.out X0 (v := (some (.int (24 : Int32)))) (fun h => by rw [Bd.returns] at h; cases h) (BodyLoose.notSynchronized Bd) (fun _ hr => retOut X0 hx Bd.returns rfl (Or.inl ⟨rfl, Or.inl rfl, _, rfl⟩) (hb hby d1_146) hr) (by decide) (by decide) ?_
    rw [e0]
    exact ⟨by simp only [vlen, if_neg w1_1, if_neg w1_2, if_pos w1_3], N0, rfl⟩
  by_cases w1_4 : p0 = (4 : Int32)
  ·
    refine Dn.by (U' := s₁.setTop (mkF m 107 #[.val (.int p0), .unset] [])) (fun _ ks => XS.tswIn X0.here hx rfl (pc0 := 1) (pc' := 107) (o := 106) rfl (hb hby d1_1) rfl (by rw [w1_4]; decide) (by rw [w1_4]; rfl) (by decide) (by decide) ks) ?_
    refine Dn.by (U' := s₁.setTop (mkF m 109 #[.val (.int p0), .unset] [(.int (24 : Int32))])) (fun _ ks => XS.bipush X0.here hx rfl (hb hby d1_107)  ks) ?_
    refine Dn.by (U' := s₁.setTop (mkF m 110 #[.val (.int p0), .val (.int (24 : Int32))] [])) (fun _ ks => XS.istoreN X0.here hx rfl (hb hby d1_109) rfl (l' := #[.val (.int p0), .val (.int (24 : Int32))]) rfl ks) ?_
    refine Dn.by (U' := s₁.setTop (mkF m 145 #[.val (.int p0), .val (.int (24 : Int32))] [])) (fun _ ks => XS.goto X0.here hx rfl (pc0 := 110) (pc' := 145) rfl (hb hby d1_110) (by decide) (by decide) ks) ?_
    refine Dn.by (U' := s₁.setTop (mkF m 146 #[.val (.int p0), .val (.int (24 : Int32))] [(.int (24 : Int32))])) (fun _ ks => XS.iloadN X0.here hx rfl (hb hby d1_145) rfl ks) ?_
    refine Dn.out X0 (v := (some (.int (24 : Int32)))) (fun h => by rw [Bd.returns] at h; cases h) (BodyLoose.notSynchronized Bd) (fun _ hr => retOut X0 hx Bd.returns rfl (Or.inl ⟨rfl, Or.inl rfl, _, rfl⟩) (hb hby d1_146) hr) (by decide) (by decide) ?_
    rw [e0]
    exact ⟨by simp only [vlen, if_neg w1_1, if_neg w1_2, if_neg w1_3, if_pos w1_4], N0, rfl⟩
  by_cases w1_5 : p0 = (5 : Int32)
  ·
    refine Dn.by (U' := s₁.setTop (mkF m 113 #[.val (.int p0), .unset] [])) (fun _ ks => XS.tswIn X0.here hx rfl (pc0 := 1) (pc' := 113) (o := 112) rfl (hb hby d1_1) rfl (by rw [w1_5]; decide) (by rw [w1_5]; rfl) (by decide) (by decide) ks) ?_
    refine Dn.by (U' := s₁.setTop (mkF m 115 #[.val (.int p0), .unset] [(.int (32 : Int32))])) (fun _ ks => XS.bipush X0.here hx rfl (hb hby d1_113)  ks) ?_
    refine Dn.by (U' := s₁.setTop (mkF m 116 #[.val (.int p0), .val (.int (32 : Int32))] [])) (fun _ ks => XS.istoreN X0.here hx rfl (hb hby d1_115) rfl (l' := #[.val (.int p0), .val (.int (32 : Int32))]) rfl ks) ?_
    refine Dn.by (U' := s₁.setTop (mkF m 145 #[.val (.int p0), .val (.int (32 : Int32))] [])) (fun _ ks => XS.goto X0.here hx rfl (pc0 := 116) (pc' := 145) rfl (hb hby d1_116) (by decide) (by decide) ks) ?_
    refine Dn.by (U' := s₁.setTop (mkF m 146 #[.val (.int p0), .val (.int (32 : Int32))] [(.int (32 : Int32))])) (fun _ ks => XS.iloadN X0.here hx rfl (hb hby d1_145) rfl ks) ?_
    refine Dn.out X0 (v := (some (.int (32 : Int32)))) (fun h => by rw [Bd.returns] at h; cases h) (BodyLoose.notSynchronized Bd) (fun _ hr => retOut X0 hx Bd.returns rfl (Or.inl ⟨rfl, Or.inl rfl, _, rfl⟩) (hb hby d1_146) hr) (by decide) (by decide) ?_
    rw [e0]
    exact ⟨by simp only [vlen, if_neg w1_1, if_neg w1_2, if_neg w1_3, if_neg w1_4, if_pos w1_5], N0, rfl⟩
  by_cases w1_6 : p0 = (6 : Int32)
  ·
    refine Dn.by (U' := s₁.setTop (mkF m 119 #[.val (.int p0), .unset] [])) (fun _ ks => XS.tswIn X0.here hx rfl (pc0 := 1) (pc' := 119) (o := 118) rfl (hb hby d1_1) rfl (by rw [w1_6]; decide) (by rw [w1_6]; rfl) (by decide) (by decide) ks) ?_
    refine Dn.by (U' := s₁.setTop (mkF m 121 #[.val (.int p0), .unset] [(.int (32 : Int32))])) (fun _ ks => XS.bipush X0.here hx rfl (hb hby d1_119)  ks) ?_
    refine Dn.by (U' := s₁.setTop (mkF m 122 #[.val (.int p0), .val (.int (32 : Int32))] [])) (fun _ ks => XS.istoreN X0.here hx rfl (hb hby d1_121) rfl (l' := #[.val (.int p0), .val (.int (32 : Int32))]) rfl ks) ?_
    refine Dn.by (U' := s₁.setTop (mkF m 145 #[.val (.int p0), .val (.int (32 : Int32))] [])) (fun _ ks => XS.goto X0.here hx rfl (pc0 := 122) (pc' := 145) rfl (hb hby d1_122) (by decide) (by decide) ks) ?_
    refine Dn.by (U' := s₁.setTop (mkF m 146 #[.val (.int p0), .val (.int (32 : Int32))] [(.int (32 : Int32))])) (fun _ ks => XS.iloadN X0.here hx rfl (hb hby d1_145) rfl ks) ?_
    refine Dn.out X0 (v := (some (.int (32 : Int32)))) (fun h => by rw [Bd.returns] at h; cases h) (BodyLoose.notSynchronized Bd) (fun _ hr => retOut X0 hx Bd.returns rfl (Or.inl ⟨rfl, Or.inl rfl, _, rfl⟩) (hb hby d1_146) hr) (by decide) (by decide) ?_
    rw [e0]
    exact ⟨by simp only [vlen, if_neg w1_1, if_neg w1_2, if_neg w1_3, if_neg w1_4, if_neg w1_5, if_pos w1_6], N0, rfl⟩
  by_cases w1_7 : p0 = (7 : Int32)
  ·
    refine Dn.by (U' := s₁.setTop (mkF m 96 #[.val (.int p0), .unset] [])) (fun _ ks => XS.tswIn X0.here hx rfl (pc0 := 1) (pc' := 96) (o := 95) rfl (hb hby d1_1) rfl (by rw [w1_7]; decide) (by rw [w1_7]; rfl) (by decide) (by decide) ks) ?_
    refine Dn.by (U' := s₁.setTop (mkF m 97 #[.val (.int p0), .unset] [(.int (1 : Int32))])) (fun _ ks => XS.iconst X0.here hx rfl (hb hby d1_96)  ks) ?_
    refine Dn.by (U' := s₁.setTop (mkF m 98 #[.val (.int p0), .val (.int (1 : Int32))] [])) (fun _ ks => XS.istoreN X0.here hx rfl (hb hby d1_97) rfl (l' := #[.val (.int p0), .val (.int (1 : Int32))]) rfl ks) ?_
    refine Dn.by (U' := s₁.setTop (mkF m 145 #[.val (.int p0), .val (.int (1 : Int32))] [])) (fun _ ks => XS.goto X0.here hx rfl (pc0 := 98) (pc' := 145) rfl (hb hby d1_98) (by decide) (by decide) ks) ?_
    refine Dn.by (U' := s₁.setTop (mkF m 146 #[.val (.int p0), .val (.int (1 : Int32))] [(.int (1 : Int32))])) (fun _ ks => XS.iloadN X0.here hx rfl (hb hby d1_145) rfl ks) ?_
    refine Dn.out X0 (v := (some (.int (1 : Int32)))) (fun h => by rw [Bd.returns] at h; cases h) (BodyLoose.notSynchronized Bd) (fun _ hr => retOut X0 hx Bd.returns rfl (Or.inl ⟨rfl, Or.inl rfl, _, rfl⟩) (hb hby d1_146) hr) (by decide) (by decide) ?_
    rw [e0]
    exact ⟨by simp only [vlen, if_neg w1_1, if_neg w1_2, if_neg w1_3, if_neg w1_4, if_neg w1_5, if_neg w1_6, if_pos w1_7], N0, rfl⟩
  by_cases w1_8 : p0 = (8 : Int32)
  ·
    refine Dn.by (U' := s₁.setTop (mkF m 119 #[.val (.int p0), .unset] [])) (fun _ ks => XS.tswIn X0.here hx rfl (pc0 := 1) (pc' := 119) (o := 118) rfl (hb hby d1_1) rfl (by rw [w1_8]; decide) (by rw [w1_8]; rfl) (by decide) (by decide) ks) ?_
    refine Dn.by (U' := s₁.setTop (mkF m 121 #[.val (.int p0), .unset] [(.int (32 : Int32))])) (fun _ ks => XS.bipush X0.here hx rfl (hb hby d1_119)  ks) ?_
    refine Dn.by (U' := s₁.setTop (mkF m 122 #[.val (.int p0), .val (.int (32 : Int32))] [])) (fun _ ks => XS.istoreN X0.here hx rfl (hb hby d1_121) rfl (l' := #[.val (.int p0), .val (.int (32 : Int32))]) rfl ks) ?_
    refine Dn.by (U' := s₁.setTop (mkF m 145 #[.val (.int p0), .val (.int (32 : Int32))] [])) (fun _ ks => XS.goto X0.here hx rfl (pc0 := 122) (pc' := 145) rfl (hb hby d1_122) (by decide) (by decide) ks) ?_
    refine Dn.by (U' := s₁.setTop (mkF m 146 #[.val (.int p0), .val (.int (32 : Int32))] [(.int (32 : Int32))])) (fun _ ks => XS.iloadN X0.here hx rfl (hb hby d1_145) rfl ks) ?_
    refine Dn.out X0 (v := (some (.int (32 : Int32)))) (fun h => by rw [Bd.returns] at h; cases h) (BodyLoose.notSynchronized Bd) (fun _ hr => retOut X0 hx Bd.returns rfl (Or.inl ⟨rfl, Or.inl rfl, _, rfl⟩) (hb hby d1_146) hr) (by decide) (by decide) ?_
    rw [e0]
    exact ⟨by simp only [vlen, if_neg w1_1, if_neg w1_2, if_neg w1_3, if_neg w1_4, if_neg w1_5, if_neg w1_6, if_neg w1_7, if_pos w1_8], N0, rfl⟩
  by_cases w1_9 : p0 = (9 : Int32)
  ·
    refine Dn.by (U' := s₁.setTop (mkF m 113 #[.val (.int p0), .unset] [])) (fun _ ks => XS.tswIn X0.here hx rfl (pc0 := 1) (pc' := 113) (o := 112) rfl (hb hby d1_1) rfl (by rw [w1_9]; decide) (by rw [w1_9]; rfl) (by decide) (by decide) ks) ?_
    refine Dn.by (U' := s₁.setTop (mkF m 115 #[.val (.int p0), .unset] [(.int (32 : Int32))])) (fun _ ks => XS.bipush X0.here hx rfl (hb hby d1_113)  ks) ?_
    refine Dn.by (U' := s₁.setTop (mkF m 116 #[.val (.int p0), .val (.int (32 : Int32))] [])) (fun _ ks => XS.istoreN X0.here hx rfl (hb hby d1_115) rfl (l' := #[.val (.int p0), .val (.int (32 : Int32))]) rfl ks) ?_
    refine Dn.by (U' := s₁.setTop (mkF m 145 #[.val (.int p0), .val (.int (32 : Int32))] [])) (fun _ ks => XS.goto X0.here hx rfl (pc0 := 116) (pc' := 145) rfl (hb hby d1_116) (by decide) (by decide) ks) ?_
    refine Dn.by (U' := s₁.setTop (mkF m 146 #[.val (.int p0), .val (.int (32 : Int32))] [(.int (32 : Int32))])) (fun _ ks => XS.iloadN X0.here hx rfl (hb hby d1_145) rfl ks) ?_
    refine Dn.out X0 (v := (some (.int (32 : Int32)))) (fun h => by rw [Bd.returns] at h; cases h) (BodyLoose.notSynchronized Bd) (fun _ hr => retOut X0 hx Bd.returns rfl (Or.inl ⟨rfl, Or.inl rfl, _, rfl⟩) (hb hby d1_146) hr) (by decide) (by decide) ?_
    rw [e0]
    exact ⟨by simp only [vlen, if_neg w1_1, if_neg w1_2, if_neg w1_3, if_neg w1_4, if_neg w1_5, if_neg w1_6, if_neg w1_7, if_neg w1_8, if_pos w1_9], N0, rfl⟩
  by_cases w1_10 : p0 = (10 : Int32)
  ·
    refine Dn.by (U' := s₁.setTop (mkF m 107 #[.val (.int p0), .unset] [])) (fun _ ks => XS.tswIn X0.here hx rfl (pc0 := 1) (pc' := 107) (o := 106) rfl (hb hby d1_1) rfl (by rw [w1_10]; decide) (by rw [w1_10]; rfl) (by decide) (by decide) ks) ?_
    refine Dn.by (U' := s₁.setTop (mkF m 109 #[.val (.int p0), .unset] [(.int (24 : Int32))])) (fun _ ks => XS.bipush X0.here hx rfl (hb hby d1_107)  ks) ?_
    refine Dn.by (U' := s₁.setTop (mkF m 110 #[.val (.int p0), .val (.int (24 : Int32))] [])) (fun _ ks => XS.istoreN X0.here hx rfl (hb hby d1_109) rfl (l' := #[.val (.int p0), .val (.int (24 : Int32))]) rfl ks) ?_
    refine Dn.by (U' := s₁.setTop (mkF m 145 #[.val (.int p0), .val (.int (24 : Int32))] [])) (fun _ ks => XS.goto X0.here hx rfl (pc0 := 110) (pc' := 145) rfl (hb hby d1_110) (by decide) (by decide) ks) ?_
    refine Dn.by (U' := s₁.setTop (mkF m 146 #[.val (.int p0), .val (.int (24 : Int32))] [(.int (24 : Int32))])) (fun _ ks => XS.iloadN X0.here hx rfl (hb hby d1_145) rfl ks) ?_
    refine Dn.out X0 (v := (some (.int (24 : Int32)))) (fun h => by rw [Bd.returns] at h; cases h) (BodyLoose.notSynchronized Bd) (fun _ hr => retOut X0 hx Bd.returns rfl (Or.inl ⟨rfl, Or.inl rfl, _, rfl⟩) (hb hby d1_146) hr) (by decide) (by decide) ?_
    rw [e0]
    exact ⟨by simp only [vlen, if_neg w1_1, if_neg w1_2, if_neg w1_3, if_neg w1_4, if_neg w1_5, if_neg w1_6, if_neg w1_7, if_neg w1_8, if_neg w1_9, if_pos w1_10], N0, rfl⟩
  by_cases w1_11 : p0 = (11 : Int32)
  ·
    refine Dn.by (U' := s₁.setTop (mkF m 125 #[.val (.int p0), .unset] [])) (fun _ ks => XS.tswIn X0.here hx rfl (pc0 := 1) (pc' := 125) (o := 124) rfl (hb hby d1_1) rfl (by rw [w1_11]; decide) (by rw [w1_11]; rfl) (by decide) (by decide) ks) ?_
    refine Dn.by (U' := s₁.setTop (mkF m 127 #[.val (.int p0), .unset] [(.int (8 : Int32))])) (fun _ ks => XS.bipush X0.here hx rfl (hb hby d1_125)  ks) ?_
    refine Dn.by (U' := s₁.setTop (mkF m 128 #[.val (.int p0), .val (.int (8 : Int32))] [])) (fun _ ks => XS.istoreN X0.here hx rfl (hb hby d1_127) rfl (l' := #[.val (.int p0), .val (.int (8 : Int32))]) rfl ks) ?_
    refine Dn.by (U' := s₁.setTop (mkF m 145 #[.val (.int p0), .val (.int (8 : Int32))] [])) (fun _ ks => XS.goto X0.here hx rfl (pc0 := 128) (pc' := 145) rfl (hb hby d1_128) (by decide) (by decide) ks) ?_
    refine Dn.by (U' := s₁.setTop (mkF m 146 #[.val (.int p0), .val (.int (8 : Int32))] [(.int (8 : Int32))])) (fun _ ks => XS.iloadN X0.here hx rfl (hb hby d1_145) rfl ks) ?_
    refine Dn.out X0 (v := (some (.int (8 : Int32)))) (fun h => by rw [Bd.returns] at h; cases h) (BodyLoose.notSynchronized Bd) (fun _ hr => retOut X0 hx Bd.returns rfl (Or.inl ⟨rfl, Or.inl rfl, _, rfl⟩) (hb hby d1_146) hr) (by decide) (by decide) ?_
    rw [e0]
    exact ⟨by simp only [vlen, if_neg w1_1, if_neg w1_2, if_neg w1_3, if_neg w1_4, if_neg w1_5, if_neg w1_6, if_neg w1_7, if_neg w1_8, if_neg w1_9, if_neg w1_10, if_pos w1_11], N0, rfl⟩
  by_cases w1_12 : p0 = (12 : Int32)
  ·
    refine Dn.by (U' := s₁.setTop (mkF m 143 #[.val (.int p0), .unset] [])) (fun _ ks => XS.tswIn X0.here hx rfl (pc0 := 1) (pc' := 143) (o := 142) rfl (hb hby d1_1) rfl (by rw [w1_12]; decide) (by rw [w1_12]; rfl) (by decide) (by decide) ks) ?_
    refine Dn.by (U' := s₁.setTop (mkF m 144 #[.val (.int p0), .unset] [(.int (-1 : Int32))])) (fun _ ks => XS.iconst X0.here hx rfl (hb hby d1_143)  ks) ?_
    refine Dn.by (U' := s₁.setTop (mkF m 145 #[.val (.int p0), .val (.int (-1 : Int32))] [])) (fun _ ks => XS.istoreN X0.here hx rfl (hb hby d1_144) rfl (l' := #[.val (.int p0), .val (.int (-1 : Int32))]) rfl ks) ?_
    refine Dn.by (U' := s₁.setTop (mkF m 146 #[.val (.int p0), .val (.int (-1 : Int32))] [(.int (-1 : Int32))])) (fun _ ks => XS.iloadN X0.here hx rfl (hb hby d1_145) rfl ks) ?_
    refine Dn.out X0 (v := (some (.int (-1 : Int32)))) (fun h => by rw [Bd.returns] at h; cases h) (BodyLoose.notSynchronized Bd) (fun _ hr => retOut X0 hx Bd.returns rfl (Or.inl ⟨rfl, Or.inl rfl, _, rfl⟩) (hb hby d1_146) hr) (by decide) (by decide) ?_
    rw [e0]
    exact ⟨by simp only [vlen, if_neg w1_1, if_neg w1_2, if_neg w1_3, if_neg w1_4, if_neg w1_5, if_neg w1_6, if_neg w1_7, if_neg w1_8, if_neg w1_9, if_neg w1_10, if_neg w1_11, if_pos w1_12], N0, rfl⟩
  by_cases w1_13 : p0 = (13 : Int32)
  ·
    refine Dn.by (U' := s₁.setTop (mkF m 143 #[.val (.int p0), .unset] [])) (fun _ ks => XS.tswIn X0.here hx rfl (pc0 := 1) (pc' := 143) (o := 142) rfl (hb hby d1_1) rfl (by rw [w1_13]; decide) (by rw [w1_13]; rfl) (by decide) (by decide) ks) ?_
    refine Dn.by (U' := s₁.setTop (mkF m 144 #[.val (.int p0), .unset] [(.int (-1 : Int32))])) (fun _ ks => XS.iconst X0.here hx rfl (hb hby d1_143)  ks) ?_
    refine Dn.by (U' := s₁.setTop (mkF m 145 #[.val (.int p0), .val (.int (-1 : Int32))] [])) (fun _ ks => XS.istoreN X0.here hx rfl (hb hby d1_144) rfl (l' := #[.val (.int p0), .val (.int (-1 : Int32))]) rfl ks) ?_
    refine Dn.by (U' := s₁.setTop (mkF m 146 #[.val (.int p0), .val (.int (-1 : Int32))] [(.int (-1 : Int32))])) (fun _ ks => XS.iloadN X0.here hx rfl (hb hby d1_145) rfl ks) ?_
    refine Dn.out X0 (v := (some (.int (-1 : Int32)))) (fun h => by rw [Bd.returns] at h; cases h) (BodyLoose.notSynchronized Bd) (fun _ hr => retOut X0 hx Bd.returns rfl (Or.inl ⟨rfl, Or.inl rfl, _, rfl⟩) (hb hby d1_146) hr) (by decide) (by decide) ?_
    rw [e0]
    exact ⟨by simp only [vlen, if_neg w1_1, if_neg w1_2, if_neg w1_3, if_neg w1_4, if_neg w1_5, if_neg w1_6, if_neg w1_7, if_neg w1_8, if_neg w1_9, if_neg w1_10, if_neg w1_11, if_neg w1_12, if_pos w1_13], N0, rfl⟩
  by_cases w1_14 : p0 = (14 : Int32)
  ·
    refine Dn.by (U' := s₁.setTop (mkF m 143 #[.val (.int p0), .unset] [])) (fun _ ks => XS.tswIn X0.here hx rfl (pc0 := 1) (pc' := 143) (o := 142) rfl (hb hby d1_1) rfl (by rw [w1_14]; decide) (by rw [w1_14]; rfl) (by decide) (by decide) ks) ?_
    refine Dn.by (U' := s₁.setTop (mkF m 144 #[.val (.int p0), .unset] [(.int (-1 : Int32))])) (fun _ ks => XS.iconst X0.here hx rfl (hb hby d1_143)  ks) ?_
    refine Dn.by (U' := s₁.setTop (mkF m 145 #[.val (.int p0), .val (.int (-1 : Int32))] [])) (fun _ ks => XS.istoreN X0.here hx rfl (hb hby d1_144) rfl (l' := #[.val (.int p0), .val (.int (-1 : Int32))]) rfl ks) ?_
    refine Dn.by (U' := s₁.setTop (mkF m 146 #[.val (.int p0), .val (.int (-1 : Int32))] [(.int (-1 : Int32))])) (fun _ ks => XS.iloadN X0.here hx rfl (hb hby d1_145) rfl ks) ?_
    refine Dn.out X0 (v := (some (.int (-1 : Int32)))) (fun h => by rw [Bd.returns] at h; cases h) (BodyLoose.notSynchronized Bd) (fun _ hr => retOut X0 hx Bd.returns rfl (Or.inl ⟨rfl, Or.inl rfl, _, rfl⟩) (hb hby d1_146) hr) (by decide) (by decide) ?_
    rw [e0]
    exact ⟨by simp only [vlen, if_neg w1_1, if_neg w1_2, if_neg w1_3, if_neg w1_4, if_neg w1_5, if_neg w1_6, if_neg w1_7, if_neg w1_8, if_neg w1_9, if_neg w1_10, if_neg w1_11, if_neg w1_12, if_neg w1_13, if_pos w1_14], N0, rfl⟩
  by_cases w1_15 : p0 = (15 : Int32)
  ·
    refine Dn.by (U' := s₁.setTop (mkF m 125 #[.val (.int p0), .unset] [])) (fun _ ks => XS.tswIn X0.here hx rfl (pc0 := 1) (pc' := 125) (o := 124) rfl (hb hby d1_1) rfl (by rw [w1_15]; decide) (by rw [w1_15]; rfl) (by decide) (by decide) ks) ?_
    refine Dn.by (U' := s₁.setTop (mkF m 127 #[.val (.int p0), .unset] [(.int (8 : Int32))])) (fun _ ks => XS.bipush X0.here hx rfl (hb hby d1_125)  ks) ?_
    refine Dn.by (U' := s₁.setTop (mkF m 128 #[.val (.int p0), .val (.int (8 : Int32))] [])) (fun _ ks => XS.istoreN X0.here hx rfl (hb hby d1_127) rfl (l' := #[.val (.int p0), .val (.int (8 : Int32))]) rfl ks) ?_
    refine Dn.by (U' := s₁.setTop (mkF m 145 #[.val (.int p0), .val (.int (8 : Int32))] [])) (fun _ ks => XS.goto X0.here hx rfl (pc0 := 128) (pc' := 145) rfl (hb hby d1_128) (by decide) (by decide) ks) ?_
    refine Dn.by (U' := s₁.setTop (mkF m 146 #[.val (.int p0), .val (.int (8 : Int32))] [(.int (8 : Int32))])) (fun _ ks => XS.iloadN X0.here hx rfl (hb hby d1_145) rfl ks) ?_
    refine Dn.out X0 (v := (some (.int (8 : Int32)))) (fun h => by rw [Bd.returns] at h; cases h) (BodyLoose.notSynchronized Bd) (fun _ hr => retOut X0 hx Bd.returns rfl (Or.inl ⟨rfl, Or.inl rfl, _, rfl⟩) (hb hby d1_146) hr) (by decide) (by decide) ?_
    rw [e0]
    exact ⟨by simp only [vlen, if_neg w1_1, if_neg w1_2, if_neg w1_3, if_neg w1_4, if_neg w1_5, if_neg w1_6, if_neg w1_7, if_neg w1_8, if_neg w1_9, if_neg w1_10, if_neg w1_11, if_neg w1_12, if_neg w1_13, if_neg w1_14, if_pos w1_15], N0, rfl⟩
  by_cases w1_16 : p0 = (16 : Int32)
  ·
    refine Dn.by (U' := s₁.setTop (mkF m 131 #[.val (.int p0), .unset] [])) (fun _ ks => XS.tswIn X0.here hx rfl (pc0 := 1) (pc' := 131) (o := 130) rfl (hb hby d1_1) rfl (by rw [w1_16]; decide) (by rw [w1_16]; rfl) (by decide) (by decide) ks) ?_
    refine Dn.by (U' := s₁.setTop (mkF m 133 #[.val (.int p0), .unset] [(.int (32 : Int32))])) (fun _ ks => XS.bipush X0.here hx rfl (hb hby d1_131)  ks) ?_
    refine Dn.by (U' := s₁.setTop (mkF m 134 #[.val (.int p0), .val (.int (32 : Int32))] [])) (fun _ ks => XS.istoreN X0.here hx rfl (hb hby d1_133) rfl (l' := #[.val (.int p0), .val (.int (32 : Int32))]) rfl ks) ?_
    refine Dn.by (U' := s₁.setTop (mkF m 145 #[.val (.int p0), .val (.int (32 : Int32))] [])) (fun _ ks => XS.goto X0.here hx rfl (pc0 := 134) (pc' := 145) rfl (hb hby d1_134) (by decide) (by decide) ks) ?_
    refine Dn.by (U' := s₁.setTop (mkF m 146 #[.val (.int p0), .val (.int (32 : Int32))] [(.int (32 : Int32))])) (fun _ ks => XS.iloadN X0.here hx rfl (hb hby d1_145) rfl ks) ?_
    refine Dn.out X0 (v := (some (.int (32 : Int32)))) (fun h => by rw [Bd.returns] at h; cases h) (BodyLoose.notSynchronized Bd) (fun _ hr => retOut X0 hx Bd.returns rfl (Or.inl ⟨rfl, Or.inl rfl, _, rfl⟩) (hb hby d1_146) hr) (by decide) (by decide) ?_
    rw [e0]
    exact ⟨by simp only [vlen, if_neg w1_1, if_neg w1_2, if_neg w1_3, if_neg w1_4, if_neg w1_5, if_neg w1_6, if_neg w1_7, if_neg w1_8, if_neg w1_9, if_neg w1_10, if_neg w1_11, if_neg w1_12, if_neg w1_13, if_neg w1_14, if_neg w1_15, if_pos w1_16], N0, rfl⟩
  by_cases w1_17 : p0 = (17 : Int32)
  ·
    refine Dn.by (U' := s₁.setTop (mkF m 143 #[.val (.int p0), .unset] [])) (fun _ ks => XS.tswIn X0.here hx rfl (pc0 := 1) (pc' := 143) (o := 142) rfl (hb hby d1_1) rfl (by rw [w1_17]; decide) (by rw [w1_17]; rfl) (by decide) (by decide) ks) ?_
    refine Dn.by (U' := s₁.setTop (mkF m 144 #[.val (.int p0), .unset] [(.int (-1 : Int32))])) (fun _ ks => XS.iconst X0.here hx rfl (hb hby d1_143)  ks) ?_
    refine Dn.by (U' := s₁.setTop (mkF m 145 #[.val (.int p0), .val (.int (-1 : Int32))] [])) (fun _ ks => XS.istoreN X0.here hx rfl (hb hby d1_144) rfl (l' := #[.val (.int p0), .val (.int (-1 : Int32))]) rfl ks) ?_
    refine Dn.by (U' := s₁.setTop (mkF m 146 #[.val (.int p0), .val (.int (-1 : Int32))] [(.int (-1 : Int32))])) (fun _ ks => XS.iloadN X0.here hx rfl (hb hby d1_145) rfl ks) ?_
    refine Dn.out X0 (v := (some (.int (-1 : Int32)))) (fun h => by rw [Bd.returns] at h; cases h) (BodyLoose.notSynchronized Bd) (fun _ hr => retOut X0 hx Bd.returns rfl (Or.inl ⟨rfl, Or.inl rfl, _, rfl⟩) (hb hby d1_146) hr) (by decide) (by decide) ?_
    rw [e0]
    exact ⟨by simp only [vlen, if_neg w1_1, if_neg w1_2, if_neg w1_3, if_neg w1_4, if_neg w1_5, if_neg w1_6, if_neg w1_7, if_neg w1_8, if_neg w1_9, if_neg w1_10, if_neg w1_11, if_neg w1_12, if_neg w1_13, if_neg w1_14, if_neg w1_15, if_neg w1_16, if_pos w1_17], N0, rfl⟩
  by_cases w1_18 : p0 = (18 : Int32)
  ·
    refine Dn.by (U' := s₁.setTop (mkF m 131 #[.val (.int p0), .unset] [])) (fun _ ks => XS.tswIn X0.here hx rfl (pc0 := 1) (pc' := 131) (o := 130) rfl (hb hby d1_1) rfl (by rw [w1_18]; decide) (by rw [w1_18]; rfl) (by decide) (by decide) ks) ?_
    refine Dn.by (U' := s₁.setTop (mkF m 133 #[.val (.int p0), .unset] [(.int (32 : Int32))])) (fun _ ks => XS.bipush X0.here hx rfl (hb hby d1_131)  ks) ?_
    refine Dn.by (U' := s₁.setTop (mkF m 134 #[.val (.int p0), .val (.int (32 : Int32))] [])) (fun _ ks => XS.istoreN X0.here hx rfl (hb hby d1_133) rfl (l' := #[.val (.int p0), .val (.int (32 : Int32))]) rfl ks) ?_
    refine Dn.by (U' := s₁.setTop (mkF m 145 #[.val (.int p0), .val (.int (32 : Int32))] [])) (fun _ ks => XS.goto X0.here hx rfl (pc0 := 134) (pc' := 145) rfl (hb hby d1_134) (by decide) (by decide) ks) ?_
    refine Dn.by (U' := s₁.setTop (mkF m 146 #[.val (.int p0), .val (.int (32 : Int32))] [(.int (32 : Int32))])) (fun _ ks => XS.iloadN X0.here hx rfl (hb hby d1_145) rfl ks) ?_
    refine Dn.out X0 (v := (some (.int (32 : Int32)))) (fun h => by rw [Bd.returns] at h; cases h) (BodyLoose.notSynchronized Bd) (fun _ hr => retOut X0 hx Bd.returns rfl (Or.inl ⟨rfl, Or.inl rfl, _, rfl⟩) (hb hby d1_146) hr) (by decide) (by decide) ?_
    rw [e0]
    exact ⟨by simp only [vlen, if_neg w1_1, if_neg w1_2, if_neg w1_3, if_neg w1_4, if_neg w1_5, if_neg w1_6, if_neg w1_7, if_neg w1_8, if_neg w1_9, if_neg w1_10, if_neg w1_11, if_neg w1_12, if_neg w1_13, if_neg w1_14, if_neg w1_15, if_neg w1_16, if_neg w1_17, if_pos w1_18], N0, rfl⟩
  by_cases w1_19 : p0 = (19 : Int32)
  ·
    refine Dn.by (U' := s₁.setTop (mkF m 119 #[.val (.int p0), .unset] [])) (fun _ ks => XS.tswIn X0.here hx rfl (pc0 := 1) (pc' := 119) (o := 118) rfl (hb hby d1_1) rfl (by rw [w1_19]; decide) (by rw [w1_19]; rfl) (by decide) (by decide) ks) ?_
    refine Dn.by (U' := s₁.setTop (mkF m 121 #[.val (.int p0), .unset] [(.int (32 : Int32))])) (fun _ ks => XS.bipush X0.here hx rfl (hb hby d1_119)  ks) ?_
    refine Dn.by (U' := s₁.setTop (mkF m 122 #[.val (.int p0), .val (.int (32 : Int32))] [])) (fun _ ks => XS.istoreN X0.here hx rfl (hb hby d1_121) rfl (l' := #[.val (.int p0), .val (.int (32 : Int32))]) rfl ks) ?_
    refine Dn.by (U' := s₁.setTop (mkF m 145 #[.val (.int p0), .val (.int (32 : Int32))] [])) (fun _ ks => XS.goto X0.here hx rfl (pc0 := 122) (pc' := 145) rfl (hb hby d1_122) (by decide) (by decide) ks) ?_
    refine Dn.by (U' := s₁.setTop (mkF m 146 #[.val (.int p0), .val (.int (32 : Int32))] [(.int (32 : Int32))])) (fun _ ks => XS.iloadN X0.here hx rfl (hb hby d1_145) rfl ks) ?_
    refine Dn.out X0 (v := (some (.int (32 : Int32)))) (fun h => by rw [Bd.returns] at h; cases h) (BodyLoose.notSynchronized Bd) (fun _ hr => retOut X0 hx Bd.returns rfl (Or.inl ⟨rfl, Or.inl rfl, _, rfl⟩) (hb hby d1_146) hr) (by decide) (by decide) ?_
    rw [e0]
    exact ⟨by simp only [vlen, if_neg w1_1, if_neg w1_2, if_neg w1_3, if_neg w1_4, if_neg w1_5, if_neg w1_6, if_neg w1_7, if_neg w1_8, if_neg w1_9, if_neg w1_10, if_neg w1_11, if_neg w1_12, if_neg w1_13, if_neg w1_14, if_neg w1_15, if_neg w1_16, if_neg w1_17, if_neg w1_18, if_pos w1_19], N0, rfl⟩
  by_cases w1_20 : p0 = (20 : Int32)
  ·
    refine Dn.by (U' := s₁.setTop (mkF m 137 #[.val (.int p0), .unset] [])) (fun _ ks => XS.tswIn X0.here hx rfl (pc0 := 1) (pc' := 137) (o := 136) rfl (hb hby d1_1) rfl (by rw [w1_20]; decide) (by rw [w1_20]; rfl) (by decide) (by decide) ks) ?_
    refine Dn.by (U' := s₁.setTop (mkF m 139 #[.val (.int p0), .unset] [(.int (32 : Int32))])) (fun _ ks => XS.bipush X0.here hx rfl (hb hby d1_137)  ks) ?_
    refine Dn.by (U' := s₁.setTop (mkF m 140 #[.val (.int p0), .val (.int (32 : Int32))] [])) (fun _ ks => XS.istoreN X0.here hx rfl (hb hby d1_139) rfl (l' := #[.val (.int p0), .val (.int (32 : Int32))]) rfl ks) ?_
    refine Dn.by (U' := s₁.setTop (mkF m 145 #[.val (.int p0), .val (.int (32 : Int32))] [])) (fun _ ks => XS.goto X0.here hx rfl (pc0 := 140) (pc' := 145) rfl (hb hby d1_140) (by decide) (by decide) ks) ?_
    refine Dn.by (U' := s₁.setTop (mkF m 146 #[.val (.int p0), .val (.int (32 : Int32))] [(.int (32 : Int32))])) (fun _ ks => XS.iloadN X0.here hx rfl (hb hby d1_145) rfl ks) ?_
    refine Dn.out X0 (v := (some (.int (32 : Int32)))) (fun h => by rw [Bd.returns] at h; cases h) (BodyLoose.notSynchronized Bd) (fun _ hr => retOut X0 hx Bd.returns rfl (Or.inl ⟨rfl, Or.inl rfl, _, rfl⟩) (hb hby d1_146) hr) (by decide) (by decide) ?_
    rw [e0]
    exact ⟨by simp only [vlen, if_neg w1_1, if_neg w1_2, if_neg w1_3, if_neg w1_4, if_neg w1_5, if_neg w1_6, if_neg w1_7, if_neg w1_8, if_neg w1_9, if_neg w1_10, if_neg w1_11, if_neg w1_12, if_neg w1_13, if_neg w1_14, if_neg w1_15, if_neg w1_16, if_neg w1_17, if_neg w1_18, if_neg w1_19, if_pos w1_20], N0, rfl⟩
  have w1_1' : p0.toInt ≠ 1 := fun q => w1_1 (Int32.toInt_inj.mp (q.trans (by decide)))
  have w1_2' : p0.toInt ≠ 2 := fun q => w1_2 (Int32.toInt_inj.mp (q.trans (by decide)))
  have w1_3' : p0.toInt ≠ 3 := fun q => w1_3 (Int32.toInt_inj.mp (q.trans (by decide)))
  have w1_4' : p0.toInt ≠ 4 := fun q => w1_4 (Int32.toInt_inj.mp (q.trans (by decide)))
  have w1_5' : p0.toInt ≠ 5 := fun q => w1_5 (Int32.toInt_inj.mp (q.trans (by decide)))
  have w1_6' : p0.toInt ≠ 6 := fun q => w1_6 (Int32.toInt_inj.mp (q.trans (by decide)))
  have w1_7' : p0.toInt ≠ 7 := fun q => w1_7 (Int32.toInt_inj.mp (q.trans (by decide)))
  have w1_8' : p0.toInt ≠ 8 := fun q => w1_8 (Int32.toInt_inj.mp (q.trans (by decide)))
  have w1_9' : p0.toInt ≠ 9 := fun q => w1_9 (Int32.toInt_inj.mp (q.trans (by decide)))
  have w1_10' : p0.toInt ≠ 10 := fun q => w1_10 (Int32.toInt_inj.mp (q.trans (by decide)))
  have w1_11' : p0.toInt ≠ 11 := fun q => w1_11 (Int32.toInt_inj.mp (q.trans (by decide)))
  have w1_12' : p0.toInt ≠ 12 := fun q => w1_12 (Int32.toInt_inj.mp (q.trans (by decide)))
  have w1_13' : p0.toInt ≠ 13 := fun q => w1_13 (Int32.toInt_inj.mp (q.trans (by decide)))
  have w1_14' : p0.toInt ≠ 14 := fun q => w1_14 (Int32.toInt_inj.mp (q.trans (by decide)))
  have w1_15' : p0.toInt ≠ 15 := fun q => w1_15 (Int32.toInt_inj.mp (q.trans (by decide)))
  have w1_16' : p0.toInt ≠ 16 := fun q => w1_16 (Int32.toInt_inj.mp (q.trans (by decide)))
  have w1_17' : p0.toInt ≠ 17 := fun q => w1_17 (Int32.toInt_inj.mp (q.trans (by decide)))
  have w1_18' : p0.toInt ≠ 18 := fun q => w1_18 (Int32.toInt_inj.mp (q.trans (by decide)))
  have w1_19' : p0.toInt ≠ 19 := fun q => w1_19 (Int32.toInt_inj.mp (q.trans (by decide)))
  have w1_20' : p0.toInt ≠ 20 := fun q => w1_20 (Int32.toInt_inj.mp (q.trans (by decide)))
  refine Dn.by (U' := s₁.setTop (mkF m 143 #[.val (.int p0), .unset] [])) (fun _ ks => XS.tswOut X0.here hx rfl (pc0 := 1) (pc' := 143) rfl (hb hby d1_1) rfl (by omega) (by decide) (by decide) ks) ?_
  refine Dn.by (U' := s₁.setTop (mkF m 144 #[.val (.int p0), .unset] [(.int (-1 : Int32))])) (fun _ ks => XS.iconst X0.here hx rfl (hb hby d1_143)  ks) ?_
  refine Dn.by (U' := s₁.setTop (mkF m 145 #[.val (.int p0), .val (.int (-1 : Int32))] [])) (fun _ ks => XS.istoreN X0.here hx rfl (hb hby d1_144) rfl (l' := #[.val (.int p0), .val (.int (-1 : Int32))]) rfl ks) ?_
  refine Dn.by (U' := s₁.setTop (mkF m 146 #[.val (.int p0), .val (.int (-1 : Int32))] [(.int (-1 : Int32))])) (fun _ ks => XS.iloadN X0.here hx rfl (hb hby d1_145) rfl ks) ?_
  refine Dn.out X0 (v := (some (.int (-1 : Int32)))) (fun h => by rw [Bd.returns] at h; cases h) (BodyLoose.notSynchronized Bd) (fun _ hr => retOut X0 hx Bd.returns rfl (Or.inl ⟨rfl, Or.inl rfl, _, rfl⟩) (hb hby d1_146) hr) (by decide) (by decide) ?_
  rw [e0]
  exact ⟨by simp only [vlen, if_neg w1_1, if_neg w1_2, if_neg w1_3, if_neg w1_4, if_neg w1_5, if_neg w1_6, if_neg w1_7, if_neg w1_8, if_neg w1_9, if_neg w1_10, if_neg w1_11, if_neg w1_12, if_neg w1_13, if_neg w1_14, if_neg w1_15, if_neg w1_16, if_neg w1_17, if_neg w1_18, if_neg w1_19, if_neg w1_20], N0, rfl⟩
theorem own_cases (key : Int32) (h0 : ¬ key < (0 : Int32)) (h1 : key < (21 : Int32)) : key = (0 : Int32) ∨ key = (1 : Int32) ∨ key = (2 : Int32) ∨ key = (3 : Int32) ∨ key = (4 : Int32) ∨ key = (5 : Int32) ∨ key = (6 : Int32) ∨ key = (7 : Int32) ∨ key = (8 : Int32) ∨ key = (9 : Int32) ∨ key = (10 : Int32) ∨ key = (11 : Int32) ∨ key = (12 : Int32) ∨ key = (13 : Int32) ∨ key = (14 : Int32) ∨ key = (15 : Int32) ∨ key = (16 : Int32) ∨ key = (17 : Int32) ∨ key = (18 : Int32) ∨ key = (19 : Int32) ∨ key = (20 : Int32) := by
  have u0 : ¬ key.toInt < 0 := fun q => h0 (Int32.lt_iff_toInt_lt.mpr q)
  have u1 : key.toInt < 21 := Int32.lt_iff_toInt_lt.mp h1
  have e : key.toInt = 0 ∨ key.toInt = 1 ∨ key.toInt = 2 ∨ key.toInt = 3 ∨ key.toInt = 4 ∨ key.toInt = 5 ∨ key.toInt = 6 ∨ key.toInt = 7 ∨ key.toInt = 8 ∨ key.toInt = 9 ∨ key.toInt = 10 ∨ key.toInt = 11 ∨ key.toInt = 12 ∨ key.toInt = 13 ∨ key.toInt = 14 ∨ key.toInt = 15 ∨ key.toInt = 16 ∨ key.toInt = 17 ∨ key.toInt = 18 ∨ key.toInt = 19 ∨ key.toInt = 20 := by omega
  rcases e with e | e | e | e | e | e | e | e | e | e | e | e | e | e | e | e | e | e | e | e | e
  · exact Or.inl (Int32.toInt_inj.mp (e.trans (by decide)))
  · exact Or.inr (Or.inl (Int32.toInt_inj.mp (e.trans (by decide))))
  · exact Or.inr (Or.inr (Or.inl (Int32.toInt_inj.mp (e.trans (by decide)))))
  · exact Or.inr (Or.inr (Or.inr (Or.inl (Int32.toInt_inj.mp (e.trans (by decide))))))
  · exact Or.inr (Or.inr (Or.inr (Or.inr (Or.inl (Int32.toInt_inj.mp (e.trans (by decide)))))))
  · exact Or.inr (Or.inr (Or.inr (Or.inr (Or.inr (Or.inl (Int32.toInt_inj.mp (e.trans (by decide))))))))
  · exact Or.inr (Or.inr (Or.inr (Or.inr (Or.inr (Or.inr (Or.inl (Int32.toInt_inj.mp (e.trans (by decide)))))))))
  · exact Or.inr (Or.inr (Or.inr (Or.inr (Or.inr (Or.inr (Or.inr (Or.inl (Int32.toInt_inj.mp (e.trans (by decide))))))))))
  · exact Or.inr (Or.inr (Or.inr (Or.inr (Or.inr (Or.inr (Or.inr (Or.inr (Or.inl (Int32.toInt_inj.mp (e.trans (by decide)))))))))))
  · exact Or.inr (Or.inr (Or.inr (Or.inr (Or.inr (Or.inr (Or.inr (Or.inr (Or.inr (Or.inl (Int32.toInt_inj.mp (e.trans (by decide))))))))))))
  · exact Or.inr (Or.inr (Or.inr (Or.inr (Or.inr (Or.inr (Or.inr (Or.inr (Or.inr (Or.inr (Or.inl (Int32.toInt_inj.mp (e.trans (by decide)))))))))))))
  · exact Or.inr (Or.inr (Or.inr (Or.inr (Or.inr (Or.inr (Or.inr (Or.inr (Or.inr (Or.inr (Or.inr (Or.inl (Int32.toInt_inj.mp (e.trans (by decide))))))))))))))
  · exact Or.inr (Or.inr (Or.inr (Or.inr (Or.inr (Or.inr (Or.inr (Or.inr (Or.inr (Or.inr (Or.inr (Or.inr (Or.inl (Int32.toInt_inj.mp (e.trans (by decide)))))))))))))))
  · exact Or.inr (Or.inr (Or.inr (Or.inr (Or.inr (Or.inr (Or.inr (Or.inr (Or.inr (Or.inr (Or.inr (Or.inr (Or.inr (Or.inl (Int32.toInt_inj.mp (e.trans (by decide))))))))))))))))
  · exact Or.inr (Or.inr (Or.inr (Or.inr (Or.inr (Or.inr (Or.inr (Or.inr (Or.inr (Or.inr (Or.inr (Or.inr (Or.inr (Or.inr (Or.inl (Int32.toInt_inj.mp (e.trans (by decide)))))))))))))))))
  · exact Or.inr (Or.inr (Or.inr (Or.inr (Or.inr (Or.inr (Or.inr (Or.inr (Or.inr (Or.inr (Or.inr (Or.inr (Or.inr (Or.inr (Or.inr (Or.inl (Int32.toInt_inj.mp (e.trans (by decide))))))))))))))))))
  · exact Or.inr (Or.inr (Or.inr (Or.inr (Or.inr (Or.inr (Or.inr (Or.inr (Or.inr (Or.inr (Or.inr (Or.inr (Or.inr (Or.inr (Or.inr (Or.inr (Or.inl (Int32.toInt_inj.mp (e.trans (by decide)))))))))))))))))))
  · exact Or.inr (Or.inr (Or.inr (Or.inr (Or.inr (Or.inr (Or.inr (Or.inr (Or.inr (Or.inr (Or.inr (Or.inr (Or.inr (Or.inr (Or.inr (Or.inr (Or.inr (Or.inl (Int32.toInt_inj.mp (e.trans (by decide))))))))))))))))))))
  · exact Or.inr (Or.inr (Or.inr (Or.inr (Or.inr (Or.inr (Or.inr (Or.inr (Or.inr (Or.inr (Or.inr (Or.inr (Or.inr (Or.inr (Or.inr (Or.inr (Or.inr (Or.inr (Or.inl (Int32.toInt_inj.mp (e.trans (by decide)))))))))))))))))))))
  · exact Or.inr (Or.inr (Or.inr (Or.inr (Or.inr (Or.inr (Or.inr (Or.inr (Or.inr (Or.inr (Or.inr (Or.inr (Or.inr (Or.inr (Or.inr (Or.inr (Or.inr (Or.inr (Or.inr (Or.inl (Int32.toInt_inj.mp (e.trans (by decide))))))))))))))))))))))
  · exact Or.inr (Or.inr (Or.inr (Or.inr (Or.inr (Or.inr (Or.inr (Or.inr (Or.inr (Or.inr (Or.inr (Or.inr (Or.inr (Or.inr (Or.inr (Or.inr (Or.inr (Or.inr (Or.inr (Or.inr ((Int32.toInt_inj.mp (e.trans (by decide)))))))))))))))))))))))
theorem own_tab (key : Int32) (h0 : ¬ key < (0 : Int32)) (h1 : key < (21 : Int32)) : ([.int (-1 : Int32), .int (1 : Int32), .int (64 : Int32), .int (24 : Int32), .int (24 : Int32), .int (32 : Int32), .int (32 : Int32), .int (1 : Int32), .int (32 : Int32), .int (32 : Int32), .int (24 : Int32), .int (8 : Int32), .int (-1 : Int32), .int (-1 : Int32), .int (-1 : Int32), .int (8 : Int32), .int (32 : Int32), .int (-1 : Int32), .int (32 : Int32), .int (32 : Int32), .int (32 : Int32)] : List Value).getD key.toNatClampNeg (.int (0 : Int32)) = .int (vlen key) := by
  rcases own_cases key h0 h1 with rfl | rfl | rfl | rfl | rfl | rfl | rfl | rfl | rfl | rfl | rfl | rfl | rfl | rfl | rfl | rfl | rfl | rfl | rfl | rfl | rfl <;> rfl
theorem own_low (key : Int32) (h0 : key < (0 : Int32)) : vlen key = (-1 : Int32) := by
  have u0 : key.toInt < 0 := Int32.lt_iff_toInt_lt.mp h0
  have n : ∀ k : Int32, 0 ≤ k.toInt → ¬ key = k := fun k hk q => by rw [q] at u0; omega
  unfold vlen
  simp only [if_neg (n (1 : Int32) (by decide)), if_neg (n (2 : Int32) (by decide)), if_neg (n (3 : Int32) (by decide)), if_neg (n (4 : Int32) (by decide)), if_neg (n (5 : Int32) (by decide)), if_neg (n (6 : Int32) (by decide)), if_neg (n (7 : Int32) (by decide)), if_neg (n (8 : Int32) (by decide)), if_neg (n (9 : Int32) (by decide)), if_neg (n (10 : Int32) (by decide)), if_neg (n (11 : Int32) (by decide)), if_neg (n (12 : Int32) (by decide)), if_neg (n (13 : Int32) (by decide)), if_neg (n (14 : Int32) (by decide)), if_neg (n (15 : Int32) (by decide)), if_neg (n (16 : Int32) (by decide)), if_neg (n (17 : Int32) (by decide)), if_neg (n (18 : Int32) (by decide)), if_neg (n (19 : Int32) (by decide)), if_neg (n (20 : Int32) (by decide))]
theorem own_high (key : Int32) (h0 : ¬ key < (21 : Int32)) : vlen key = (-1 : Int32) := by
  have u0 : ¬ key.toInt < 21 := fun q => h0 (Int32.lt_iff_toInt_lt.mpr q)
  have n : ∀ k : Int32, k.toInt < 21 → ¬ key = k := fun k hk q => by rw [q] at u0; omega
  unfold vlen
  simp only [if_neg (n (1 : Int32) (by decide)), if_neg (n (2 : Int32) (by decide)), if_neg (n (3 : Int32) (by decide)), if_neg (n (4 : Int32) (by decide)), if_neg (n (5 : Int32) (by decide)), if_neg (n (6 : Int32) (by decide)), if_neg (n (7 : Int32) (by decide)), if_neg (n (8 : Int32) (by decide)), if_neg (n (9 : Int32) (by decide)), if_neg (n (10 : Int32) (by decide)), if_neg (n (11 : Int32) (by decide)), if_neg (n (12 : Int32) (by decide)), if_neg (n (13 : Int32) (by decide)), if_neg (n (14 : Int32) (by decide)), if_neg (n (15 : Int32) (by decide)), if_neg (n (16 : Int32) (by decide)), if_neg (n (17 : Int32) (by decide)), if_neg (n (18 : Int32) (by decide)), if_neg (n (19 : Int32) (by decide)), if_neg (n (20 : Int32) (by decide))]
theorem ef_0 (m : MethodId) (p0 : Int32) (p1 : Int32) : entryFrame m #[(.int p0), (.int p1)] maxLocals = mkF m 0 #[.val (.int p0), .val (.int p1), .unset, .unset, .unset] [] := by first | (simp [entryFrame, mkF, argsToLocals, Value.category, maxLocals]; done) | rfl
def Q0 (Z : State) (p0 : Int32) (p1 : Int32) (h0 : Heap) (n0 : Nat) (v : Option Value) (h : Heap) (L : List Loc) : Prop := v = some (.int 1) ∧ Fr n0 L
set_option maxRecDepth 65536 in
set_option maxHeartbeats 40000000 in
theorem rm0 (l : Launch) (Z : State) (a0 : Array Value) (hw : ∀ d ∈ tables_1, d.before a0 Z = true) (ws : List Jvm.Cond) (p0 : Int32) (p1 : Int32) (h0 : Heap) (n0 : Nat) (Z0 : n0 ≤ h0.size)  :
    MetFree l x (head1 (Jvm.Cond.code x code maxLocals ret :: ws) room_1) (fun a U => a = #[(.int p0), (.int p1)] ∧ Z.Warmed39 U.vm ∧ U.heap = h0) (fun _ _ _ _ _ => True) (fun _ U o U' => ∃ v L, o = .returned v ∧ Q0 Z p0 p1 h0 n0 v U'.heap L ∧ FrameEnd U o U' L 16 128) := by
  refine MetFree.of_bodySF (plainFor_of_name pn1) hisR ?_
  intro p e s m args below meth c s₁ Bd hml0 hP hK
  obtain ⟨rfl, hZ, hh⟩ := hP
  have hx := Bd.exec
  have hby := Bd.bytes
  have hml : c.maxLocals = 5 := hml0
  have hown : s.vm.findClass "com/example/ferrywire/ferrywire/wire/CellKeysValueLengthPinLaw" = some m.cls := findClass_of_methodNamed Bd.named
  have hnm := (name_of_methodNamed Bd.named Bd.method).1
  have X0 : Stand p l e room_1 s m #[(.int p0), (.int p1)] below meth c s₁ [] 0 0 := Stand.of_body Bd
  have e0 : s₁.heap = h0 := by rw [← hh, Bd.state]; rfl
  have N0 := Fr.nil n0
  show Dn p e below s 16 128 (Q0 Z p0 p1 h0 n0) (s₁.setTop (entryFrame m #[(.int p0), (.int p1)] maxLocals))
  rw [ef_0]
  refine Dn.by (U' := s₁.setTop (mkF m 1 #[.val (.int p0), .val (.int p1), .unset, .unset, .unset] [(.int p1)])) (fun _ ks => XS.iloadN X0.here hx rfl (hb hby at_0) rfl ks) ?_
  refine Dn.by (U' := s₁.setTop (mkF m 2 #[.val (.int p0), .val (.int p1), .unset, .unset, .unset] [(.int (1 : Int32)), (.int p1)])) (fun _ ks => XS.iconst X0.here hx rfl (hb hby at_1)  ks) ?_
  refine Dn.by (U' := s₁.setTop (mkF m 3 #[.val (.int p0), .val (.int p1), .unset, .unset, .unset] [(.int (p1 &&& (1 : Int32)))])) (fun _ ks => XS.iand X0.here hx rfl (hb hby at_2) rfl ks) ?_
  have J : ∀ key : Int32, Dn p e below s 16 128 (Q0 Z p0 p1 h0 n0) (s₁.setTop (mkF m 14 #[.val (.int p0), .val (.int p1), .unset, .unset, .unset] [(.int key)])) := by
    intro key
    refine Dn.by (U' := s₁.setTop (mkF m 15 #[.val (.int p0), .val (.int p1), .val (.int key), .unset, .unset] [])) (fun _ ks => XS.istoreN X0.here hx rfl (hb hby at_14) rfl (l' := #[.val (.int p0), .val (.int p1), .val (.int key), .unset, .unset]) rfl ks) ?_
    refine Dn.by (U' := s₁.setTop (mkF m 17 #[.val (.int p0), .val (.int p1), .val (.int key), .unset, .unset] [(.int (21 : Int32))])) (fun _ ks => XS.bipush X0.here hx rfl (hb hby at_15)  ks) ?_
    obtain ⟨T1, h1, k1, X1, e1, E1, A1, st1⟩ := newP X0 hx hZ (hw _ (List.mem_of_getElem? (i := 0) rfl)) e0 (g := (mkF m 17 #[.val (.int p0), .val (.int p1), .val (.int key), .unset, .unset] [(.int (21 : Int32))])) rfl (hb hby at_17) rfl (by decide) (cap := 21) (by decide) (by decide) (by decide) (by decide)
    obtain ⟨b1, g1⟩ : ∃ z, z = h0.size := ⟨_, rfl⟩
    rw [← g1] at A1 st1
    have g_b1 : n0 ≤ b1 := Nat.le_trans Z0 (Nat.le_of_eq g1.symm)
    have sz_b1 : h0.size ≤ b1 := Nat.le_trans (Keep.refl h0 []).1 (Nat.le_of_eq g1.symm)
    have K2 : Keep h0 h1 [] := ((Keep.refl h0 []).ext E1)
    have z2 : n0 ≤ h1.size := (Nat.le_trans Z0 E1.1)
    have V1 : Arv Z h1 b1 k1 .int (21 : Int32) [(.int (0 : Int32)), (.int (0 : Int32)), (.int (0 : Int32)), (.int (0 : Int32)), (.int (0 : Int32)), (.int (0 : Int32)), (.int (0 : Int32)), (.int (0 : Int32)), (.int (0 : Int32)), (.int (0 : Int32)), (.int (0 : Int32)), (.int (0 : Int32)), (.int (0 : Int32)), (.int (0 : Int32)), (.int (0 : Int32)), (.int (0 : Int32)), (.int (0 : Int32)), (.int (0 : Int32)), (.int (0 : Int32)), (.int (0 : Int32)), (.int (0 : Int32))] (.int (0 : Int32)) := (Arv.new A1 (by decide)).pad (pad_rep [] (.int (0 : Int32)) 21)
    refine Dn.by (U' := T1.setTop (mkF m 19 #[.val (.int p0), .val (.int p1), .val (.int key), .unset, .unset] [(.ref b1)])) st1 ?_
    refine Dn.by (U' := T1.setTop (mkF m 20 #[.val (.int p0), .val (.int p1), .val (.int key), .unset, .unset] [(.ref b1), (.ref b1)])) (fun _ ks => XS.dup X1.here hx rfl (hb hby at_19) rfl rfl ks) ?_
    refine Dn.by (U' := T1.setTop (mkF m 21 #[.val (.int p0), .val (.int p1), .val (.int key), .unset, .unset] [(.int (0 : Int32)), (.ref b1), (.ref b1)])) (fun _ ks => XS.iconst X1.here hx rfl (hb hby at_20)  ks) ?_
    refine Dn.by (U' := T1.setTop (mkF m 22 #[.val (.int p0), .val (.int p1), .val (.int key), .unset, .unset] [(.int (-1 : Int32)), (.int (0 : Int32)), (.ref b1), (.ref b1)])) (fun _ ks => XS.iconst X1.here hx rfl (hb hby at_21)  ks) ?_
    obtain ⟨cl3, Ar3, q3, S3, M3, H3, G3⟩ := id V1
    obtain ⟨T3, h3, X3, e3, W3, st3⟩ := stI X1 hx hZ e1 Ar3 (j := (0 : Int32)) (inb_of S3 ⟨by decide, by decide⟩) (g := (mkF m 22 #[.val (.int p0), .val (.int p1), .val (.int key), .unset, .unset] [(.int (-1 : Int32)), (.int (0 : Int32)), (.ref b1), (.ref b1)])) rfl rfl (hb hby at_22)
    have V3 := Arv.set Ar3 q3 S3 M3 H3 G3 rfl W3 0 rfl (Nat.le_of_ble_eq_true rfl)
    have K4 : Keep h0 h3 [] := (K2.wr W3 (Or.inr sz_b1))
    have z4 : n0 ≤ h3.size := (Nat.le_trans z2 (Keep.of_wr W3).1)
    have V3b : Arv Z h3 b1 k1 .int (21 : Int32) [(.int (-1 : Int32)), (.int (0 : Int32)), (.int (0 : Int32)), (.int (0 : Int32)), (.int (0 : Int32)), (.int (0 : Int32)), (.int (0 : Int32)), (.int (0 : Int32)), (.int (0 : Int32)), (.int (0 : Int32)), (.int (0 : Int32)), (.int (0 : Int32)), (.int (0 : Int32)), (.int (0 : Int32)), (.int (0 : Int32)), (.int (0 : Int32)), (.int (0 : Int32)), (.int (0 : Int32)), (.int (0 : Int32)), (.int (0 : Int32)), (.int (0 : Int32))] (.int (0 : Int32)) := V3
    have N3 := Fr.snoc X3 N0 g_b1
    refine Dn.by (U' := T3.setTop (mkF m 23 #[.val (.int p0), .val (.int p1), .val (.int key), .unset, .unset] [(.ref b1)])) st3 ?_
    refine Dn.by (U' := T3.setTop (mkF m 24 #[.val (.int p0), .val (.int p1), .val (.int key), .unset, .unset] [(.ref b1), (.ref b1)])) (fun _ ks => XS.dup X3.here hx rfl (hb hby at_23) rfl rfl ks) ?_
    refine Dn.by (U' := T3.setTop (mkF m 25 #[.val (.int p0), .val (.int p1), .val (.int key), .unset, .unset] [(.int (1 : Int32)), (.ref b1), (.ref b1)])) (fun _ ks => XS.iconst X3.here hx rfl (hb hby at_24)  ks) ?_
    refine Dn.by (U' := T3.setTop (mkF m 26 #[.val (.int p0), .val (.int p1), .val (.int key), .unset, .unset] [(.int (1 : Int32)), (.int (1 : Int32)), (.ref b1), (.ref b1)])) (fun _ ks => XS.iconst X3.here hx rfl (hb hby at_25)  ks) ?_
    obtain ⟨cl5, Ar5, q5, S5, M5, H5, G5⟩ := id V3b
    obtain ⟨T5, h5, X5, e5, W5, st5⟩ := stI X3 hx hZ e3 Ar5 (j := (1 : Int32)) (inb_of S5 ⟨by decide, by decide⟩) (g := (mkF m 26 #[.val (.int p0), .val (.int p1), .val (.int key), .unset, .unset] [(.int (1 : Int32)), (.int (1 : Int32)), (.ref b1), (.ref b1)])) rfl rfl (hb hby at_26)
    have V5 := Arv.set Ar5 q5 S5 M5 H5 G5 rfl W5 1 rfl (Nat.le_of_ble_eq_true rfl)
    have K6 : Keep h0 h5 [] := (K4.wr W5 (Or.inr sz_b1))
    have z6 : n0 ≤ h5.size := (Nat.le_trans z4 (Keep.of_wr W5).1)
    have V5b : Arv Z h5 b1 k1 .int (21 : Int32) [(.int (-1 : Int32)), (.int (1 : Int32)), (.int (0 : Int32)), (.int (0 : Int32)), (.int (0 : Int32)), (.int (0 : Int32)), (.int (0 : Int32)), (.int (0 : Int32)), (.int (0 : Int32)), (.int (0 : Int32)), (.int (0 : Int32)), (.int (0 : Int32)), (.int (0 : Int32)), (.int (0 : Int32)), (.int (0 : Int32)), (.int (0 : Int32)), (.int (0 : Int32)), (.int (0 : Int32)), (.int (0 : Int32)), (.int (0 : Int32)), (.int (0 : Int32))] (.int (0 : Int32)) := V5
    have N5 := Fr.snoc X5 N3 g_b1
    refine Dn.by (U' := T5.setTop (mkF m 27 #[.val (.int p0), .val (.int p1), .val (.int key), .unset, .unset] [(.ref b1)])) st5 ?_
    refine Dn.by (U' := T5.setTop (mkF m 28 #[.val (.int p0), .val (.int p1), .val (.int key), .unset, .unset] [(.ref b1), (.ref b1)])) (fun _ ks => XS.dup X5.here hx rfl (hb hby at_27) rfl rfl ks) ?_
    refine Dn.by (U' := T5.setTop (mkF m 29 #[.val (.int p0), .val (.int p1), .val (.int key), .unset, .unset] [(.int (2 : Int32)), (.ref b1), (.ref b1)])) (fun _ ks => XS.iconst X5.here hx rfl (hb hby at_28)  ks) ?_
    refine Dn.by (U' := T5.setTop (mkF m 31 #[.val (.int p0), .val (.int p1), .val (.int key), .unset, .unset] [(.int (64 : Int32)), (.int (2 : Int32)), (.ref b1), (.ref b1)])) (fun _ ks => XS.bipush X5.here hx rfl (hb hby at_29)  ks) ?_
    obtain ⟨cl7, Ar7, q7, S7, M7, H7, G7⟩ := id V5b
    obtain ⟨T7, h7, X7, e7, W7, st7⟩ := stI X5 hx hZ e5 Ar7 (j := (2 : Int32)) (inb_of S7 ⟨by decide, by decide⟩) (g := (mkF m 31 #[.val (.int p0), .val (.int p1), .val (.int key), .unset, .unset] [(.int (64 : Int32)), (.int (2 : Int32)), (.ref b1), (.ref b1)])) rfl rfl (hb hby at_31)
    have V7 := Arv.set Ar7 q7 S7 M7 H7 G7 rfl W7 2 rfl (Nat.le_of_ble_eq_true rfl)
    have K8 : Keep h0 h7 [] := (K6.wr W7 (Or.inr sz_b1))
    have z8 : n0 ≤ h7.size := (Nat.le_trans z6 (Keep.of_wr W7).1)
    have V7b : Arv Z h7 b1 k1 .int (21 : Int32) [(.int (-1 : Int32)), (.int (1 : Int32)), (.int (64 : Int32)), (.int (0 : Int32)), (.int (0 : Int32)), (.int (0 : Int32)), (.int (0 : Int32)), (.int (0 : Int32)), (.int (0 : Int32)), (.int (0 : Int32)), (.int (0 : Int32)), (.int (0 : Int32)), (.int (0 : Int32)), (.int (0 : Int32)), (.int (0 : Int32)), (.int (0 : Int32)), (.int (0 : Int32)), (.int (0 : Int32)), (.int (0 : Int32)), (.int (0 : Int32)), (.int (0 : Int32))] (.int (0 : Int32)) := V7
    have N7 := Fr.snoc X7 N5 g_b1
    refine Dn.by (U' := T7.setTop (mkF m 32 #[.val (.int p0), .val (.int p1), .val (.int key), .unset, .unset] [(.ref b1)])) st7 ?_
    refine Dn.by (U' := T7.setTop (mkF m 33 #[.val (.int p0), .val (.int p1), .val (.int key), .unset, .unset] [(.ref b1), (.ref b1)])) (fun _ ks => XS.dup X7.here hx rfl (hb hby at_32) rfl rfl ks) ?_
    refine Dn.by (U' := T7.setTop (mkF m 34 #[.val (.int p0), .val (.int p1), .val (.int key), .unset, .unset] [(.int (3 : Int32)), (.ref b1), (.ref b1)])) (fun _ ks => XS.iconst X7.here hx rfl (hb hby at_33)  ks) ?_
    refine Dn.by (U' := T7.setTop (mkF m 36 #[.val (.int p0), .val (.int p1), .val (.int key), .unset, .unset] [(.int (24 : Int32)), (.int (3 : Int32)), (.ref b1), (.ref b1)])) (fun _ ks => XS.bipush X7.here hx rfl (hb hby at_34)  ks) ?_
    obtain ⟨cl9, Ar9, q9, S9, M9, H9, G9⟩ := id V7b
    obtain ⟨T9, h9, X9, e9, W9, st9⟩ := stI X7 hx hZ e7 Ar9 (j := (3 : Int32)) (inb_of S9 ⟨by decide, by decide⟩) (g := (mkF m 36 #[.val (.int p0), .val (.int p1), .val (.int key), .unset, .unset] [(.int (24 : Int32)), (.int (3 : Int32)), (.ref b1), (.ref b1)])) rfl rfl (hb hby at_36)
    have V9 := Arv.set Ar9 q9 S9 M9 H9 G9 rfl W9 3 rfl (Nat.le_of_ble_eq_true rfl)
    have K10 : Keep h0 h9 [] := (K8.wr W9 (Or.inr sz_b1))
    have z10 : n0 ≤ h9.size := (Nat.le_trans z8 (Keep.of_wr W9).1)
    have V9b : Arv Z h9 b1 k1 .int (21 : Int32) [(.int (-1 : Int32)), (.int (1 : Int32)), (.int (64 : Int32)), (.int (24 : Int32)), (.int (0 : Int32)), (.int (0 : Int32)), (.int (0 : Int32)), (.int (0 : Int32)), (.int (0 : Int32)), (.int (0 : Int32)), (.int (0 : Int32)), (.int (0 : Int32)), (.int (0 : Int32)), (.int (0 : Int32)), (.int (0 : Int32)), (.int (0 : Int32)), (.int (0 : Int32)), (.int (0 : Int32)), (.int (0 : Int32)), (.int (0 : Int32)), (.int (0 : Int32))] (.int (0 : Int32)) := V9
    have N9 := Fr.snoc X9 N7 g_b1
    refine Dn.by (U' := T9.setTop (mkF m 37 #[.val (.int p0), .val (.int p1), .val (.int key), .unset, .unset] [(.ref b1)])) st9 ?_
    refine Dn.by (U' := T9.setTop (mkF m 38 #[.val (.int p0), .val (.int p1), .val (.int key), .unset, .unset] [(.ref b1), (.ref b1)])) (fun _ ks => XS.dup X9.here hx rfl (hb hby at_37) rfl rfl ks) ?_
    refine Dn.by (U' := T9.setTop (mkF m 39 #[.val (.int p0), .val (.int p1), .val (.int key), .unset, .unset] [(.int (4 : Int32)), (.ref b1), (.ref b1)])) (fun _ ks => XS.iconst X9.here hx rfl (hb hby at_38)  ks) ?_
    refine Dn.by (U' := T9.setTop (mkF m 41 #[.val (.int p0), .val (.int p1), .val (.int key), .unset, .unset] [(.int (24 : Int32)), (.int (4 : Int32)), (.ref b1), (.ref b1)])) (fun _ ks => XS.bipush X9.here hx rfl (hb hby at_39)  ks) ?_
    obtain ⟨cl11, Ar11, q11, S11, M11, H11, G11⟩ := id V9b
    obtain ⟨T11, h11, X11, e11, W11, st11⟩ := stI X9 hx hZ e9 Ar11 (j := (4 : Int32)) (inb_of S11 ⟨by decide, by decide⟩) (g := (mkF m 41 #[.val (.int p0), .val (.int p1), .val (.int key), .unset, .unset] [(.int (24 : Int32)), (.int (4 : Int32)), (.ref b1), (.ref b1)])) rfl rfl (hb hby at_41)
    have V11 := Arv.set Ar11 q11 S11 M11 H11 G11 rfl W11 4 rfl (Nat.le_of_ble_eq_true rfl)
    have K12 : Keep h0 h11 [] := (K10.wr W11 (Or.inr sz_b1))
    have z12 : n0 ≤ h11.size := (Nat.le_trans z10 (Keep.of_wr W11).1)
    have V11b : Arv Z h11 b1 k1 .int (21 : Int32) [(.int (-1 : Int32)), (.int (1 : Int32)), (.int (64 : Int32)), (.int (24 : Int32)), (.int (24 : Int32)), (.int (0 : Int32)), (.int (0 : Int32)), (.int (0 : Int32)), (.int (0 : Int32)), (.int (0 : Int32)), (.int (0 : Int32)), (.int (0 : Int32)), (.int (0 : Int32)), (.int (0 : Int32)), (.int (0 : Int32)), (.int (0 : Int32)), (.int (0 : Int32)), (.int (0 : Int32)), (.int (0 : Int32)), (.int (0 : Int32)), (.int (0 : Int32))] (.int (0 : Int32)) := V11
    have N11 := Fr.snoc X11 N9 g_b1
    refine Dn.by (U' := T11.setTop (mkF m 42 #[.val (.int p0), .val (.int p1), .val (.int key), .unset, .unset] [(.ref b1)])) st11 ?_
    refine Dn.by (U' := T11.setTop (mkF m 43 #[.val (.int p0), .val (.int p1), .val (.int key), .unset, .unset] [(.ref b1), (.ref b1)])) (fun _ ks => XS.dup X11.here hx rfl (hb hby at_42) rfl rfl ks) ?_
    refine Dn.by (U' := T11.setTop (mkF m 44 #[.val (.int p0), .val (.int p1), .val (.int key), .unset, .unset] [(.int (5 : Int32)), (.ref b1), (.ref b1)])) (fun _ ks => XS.iconst X11.here hx rfl (hb hby at_43)  ks) ?_
    refine Dn.by (U' := T11.setTop (mkF m 46 #[.val (.int p0), .val (.int p1), .val (.int key), .unset, .unset] [(.int (32 : Int32)), (.int (5 : Int32)), (.ref b1), (.ref b1)])) (fun _ ks => XS.bipush X11.here hx rfl (hb hby at_44)  ks) ?_
    obtain ⟨cl13, Ar13, q13, S13, M13, H13, G13⟩ := id V11b
    obtain ⟨T13, h13, X13, e13, W13, st13⟩ := stI X11 hx hZ e11 Ar13 (j := (5 : Int32)) (inb_of S13 ⟨by decide, by decide⟩) (g := (mkF m 46 #[.val (.int p0), .val (.int p1), .val (.int key), .unset, .unset] [(.int (32 : Int32)), (.int (5 : Int32)), (.ref b1), (.ref b1)])) rfl rfl (hb hby at_46)
    have V13 := Arv.set Ar13 q13 S13 M13 H13 G13 rfl W13 5 rfl (Nat.le_of_ble_eq_true rfl)
    have K14 : Keep h0 h13 [] := (K12.wr W13 (Or.inr sz_b1))
    have z14 : n0 ≤ h13.size := (Nat.le_trans z12 (Keep.of_wr W13).1)
    have V13b : Arv Z h13 b1 k1 .int (21 : Int32) [(.int (-1 : Int32)), (.int (1 : Int32)), (.int (64 : Int32)), (.int (24 : Int32)), (.int (24 : Int32)), (.int (32 : Int32)), (.int (0 : Int32)), (.int (0 : Int32)), (.int (0 : Int32)), (.int (0 : Int32)), (.int (0 : Int32)), (.int (0 : Int32)), (.int (0 : Int32)), (.int (0 : Int32)), (.int (0 : Int32)), (.int (0 : Int32)), (.int (0 : Int32)), (.int (0 : Int32)), (.int (0 : Int32)), (.int (0 : Int32)), (.int (0 : Int32))] (.int (0 : Int32)) := V13
    have N13 := Fr.snoc X13 N11 g_b1
    refine Dn.by (U' := T13.setTop (mkF m 47 #[.val (.int p0), .val (.int p1), .val (.int key), .unset, .unset] [(.ref b1)])) st13 ?_
    refine Dn.by (U' := T13.setTop (mkF m 48 #[.val (.int p0), .val (.int p1), .val (.int key), .unset, .unset] [(.ref b1), (.ref b1)])) (fun _ ks => XS.dup X13.here hx rfl (hb hby at_47) rfl rfl ks) ?_
    refine Dn.by (U' := T13.setTop (mkF m 50 #[.val (.int p0), .val (.int p1), .val (.int key), .unset, .unset] [(.int (6 : Int32)), (.ref b1), (.ref b1)])) (fun _ ks => XS.bipush X13.here hx rfl (hb hby at_48)  ks) ?_
    refine Dn.by (U' := T13.setTop (mkF m 52 #[.val (.int p0), .val (.int p1), .val (.int key), .unset, .unset] [(.int (32 : Int32)), (.int (6 : Int32)), (.ref b1), (.ref b1)])) (fun _ ks => XS.bipush X13.here hx rfl (hb hby at_50)  ks) ?_
    obtain ⟨cl15, Ar15, q15, S15, M15, H15, G15⟩ := id V13b
    obtain ⟨T15, h15, X15, e15, W15, st15⟩ := stI X13 hx hZ e13 Ar15 (j := (6 : Int32)) (inb_of S15 ⟨by decide, by decide⟩) (g := (mkF m 52 #[.val (.int p0), .val (.int p1), .val (.int key), .unset, .unset] [(.int (32 : Int32)), (.int (6 : Int32)), (.ref b1), (.ref b1)])) rfl rfl (hb hby at_52)
    have V15 := Arv.set Ar15 q15 S15 M15 H15 G15 rfl W15 6 rfl (Nat.le_of_ble_eq_true rfl)
    have K16 : Keep h0 h15 [] := (K14.wr W15 (Or.inr sz_b1))
    have z16 : n0 ≤ h15.size := (Nat.le_trans z14 (Keep.of_wr W15).1)
    have V15b : Arv Z h15 b1 k1 .int (21 : Int32) [(.int (-1 : Int32)), (.int (1 : Int32)), (.int (64 : Int32)), (.int (24 : Int32)), (.int (24 : Int32)), (.int (32 : Int32)), (.int (32 : Int32)), (.int (0 : Int32)), (.int (0 : Int32)), (.int (0 : Int32)), (.int (0 : Int32)), (.int (0 : Int32)), (.int (0 : Int32)), (.int (0 : Int32)), (.int (0 : Int32)), (.int (0 : Int32)), (.int (0 : Int32)), (.int (0 : Int32)), (.int (0 : Int32)), (.int (0 : Int32)), (.int (0 : Int32))] (.int (0 : Int32)) := V15
    have N15 := Fr.snoc X15 N13 g_b1
    refine Dn.by (U' := T15.setTop (mkF m 53 #[.val (.int p0), .val (.int p1), .val (.int key), .unset, .unset] [(.ref b1)])) st15 ?_
    refine Dn.by (U' := T15.setTop (mkF m 54 #[.val (.int p0), .val (.int p1), .val (.int key), .unset, .unset] [(.ref b1), (.ref b1)])) (fun _ ks => XS.dup X15.here hx rfl (hb hby at_53) rfl rfl ks) ?_
    refine Dn.by (U' := T15.setTop (mkF m 56 #[.val (.int p0), .val (.int p1), .val (.int key), .unset, .unset] [(.int (7 : Int32)), (.ref b1), (.ref b1)])) (fun _ ks => XS.bipush X15.here hx rfl (hb hby at_54)  ks) ?_
    refine Dn.by (U' := T15.setTop (mkF m 57 #[.val (.int p0), .val (.int p1), .val (.int key), .unset, .unset] [(.int (1 : Int32)), (.int (7 : Int32)), (.ref b1), (.ref b1)])) (fun _ ks => XS.iconst X15.here hx rfl (hb hby at_56)  ks) ?_
    obtain ⟨cl17, Ar17, q17, S17, M17, H17, G17⟩ := id V15b
    obtain ⟨T17, h17, X17, e17, W17, st17⟩ := stI X15 hx hZ e15 Ar17 (j := (7 : Int32)) (inb_of S17 ⟨by decide, by decide⟩) (g := (mkF m 57 #[.val (.int p0), .val (.int p1), .val (.int key), .unset, .unset] [(.int (1 : Int32)), (.int (7 : Int32)), (.ref b1), (.ref b1)])) rfl rfl (hb hby at_57)
    have V17 := Arv.set Ar17 q17 S17 M17 H17 G17 rfl W17 7 rfl (Nat.le_of_ble_eq_true rfl)
    have K18 : Keep h0 h17 [] := (K16.wr W17 (Or.inr sz_b1))
    have z18 : n0 ≤ h17.size := (Nat.le_trans z16 (Keep.of_wr W17).1)
    have V17b : Arv Z h17 b1 k1 .int (21 : Int32) [(.int (-1 : Int32)), (.int (1 : Int32)), (.int (64 : Int32)), (.int (24 : Int32)), (.int (24 : Int32)), (.int (32 : Int32)), (.int (32 : Int32)), (.int (1 : Int32)), (.int (0 : Int32)), (.int (0 : Int32)), (.int (0 : Int32)), (.int (0 : Int32)), (.int (0 : Int32)), (.int (0 : Int32)), (.int (0 : Int32)), (.int (0 : Int32)), (.int (0 : Int32)), (.int (0 : Int32)), (.int (0 : Int32)), (.int (0 : Int32)), (.int (0 : Int32))] (.int (0 : Int32)) := V17
    have N17 := Fr.snoc X17 N15 g_b1
    refine Dn.by (U' := T17.setTop (mkF m 58 #[.val (.int p0), .val (.int p1), .val (.int key), .unset, .unset] [(.ref b1)])) st17 ?_
    refine Dn.by (U' := T17.setTop (mkF m 59 #[.val (.int p0), .val (.int p1), .val (.int key), .unset, .unset] [(.ref b1), (.ref b1)])) (fun _ ks => XS.dup X17.here hx rfl (hb hby at_58) rfl rfl ks) ?_
    refine Dn.by (U' := T17.setTop (mkF m 61 #[.val (.int p0), .val (.int p1), .val (.int key), .unset, .unset] [(.int (8 : Int32)), (.ref b1), (.ref b1)])) (fun _ ks => XS.bipush X17.here hx rfl (hb hby at_59)  ks) ?_
    refine Dn.by (U' := T17.setTop (mkF m 63 #[.val (.int p0), .val (.int p1), .val (.int key), .unset, .unset] [(.int (32 : Int32)), (.int (8 : Int32)), (.ref b1), (.ref b1)])) (fun _ ks => XS.bipush X17.here hx rfl (hb hby at_61)  ks) ?_
    obtain ⟨cl19, Ar19, q19, S19, M19, H19, G19⟩ := id V17b
    obtain ⟨T19, h19, X19, e19, W19, st19⟩ := stI X17 hx hZ e17 Ar19 (j := (8 : Int32)) (inb_of S19 ⟨by decide, by decide⟩) (g := (mkF m 63 #[.val (.int p0), .val (.int p1), .val (.int key), .unset, .unset] [(.int (32 : Int32)), (.int (8 : Int32)), (.ref b1), (.ref b1)])) rfl rfl (hb hby at_63)
    have V19 := Arv.set Ar19 q19 S19 M19 H19 G19 rfl W19 8 rfl (Nat.le_of_ble_eq_true rfl)
    have K20 : Keep h0 h19 [] := (K18.wr W19 (Or.inr sz_b1))
    have z20 : n0 ≤ h19.size := (Nat.le_trans z18 (Keep.of_wr W19).1)
    have V19b : Arv Z h19 b1 k1 .int (21 : Int32) [(.int (-1 : Int32)), (.int (1 : Int32)), (.int (64 : Int32)), (.int (24 : Int32)), (.int (24 : Int32)), (.int (32 : Int32)), (.int (32 : Int32)), (.int (1 : Int32)), (.int (32 : Int32)), (.int (0 : Int32)), (.int (0 : Int32)), (.int (0 : Int32)), (.int (0 : Int32)), (.int (0 : Int32)), (.int (0 : Int32)), (.int (0 : Int32)), (.int (0 : Int32)), (.int (0 : Int32)), (.int (0 : Int32)), (.int (0 : Int32)), (.int (0 : Int32))] (.int (0 : Int32)) := V19
    have N19 := Fr.snoc X19 N17 g_b1
    refine Dn.by (U' := T19.setTop (mkF m 64 #[.val (.int p0), .val (.int p1), .val (.int key), .unset, .unset] [(.ref b1)])) st19 ?_
    refine Dn.by (U' := T19.setTop (mkF m 65 #[.val (.int p0), .val (.int p1), .val (.int key), .unset, .unset] [(.ref b1), (.ref b1)])) (fun _ ks => XS.dup X19.here hx rfl (hb hby at_64) rfl rfl ks) ?_
    refine Dn.by (U' := T19.setTop (mkF m 67 #[.val (.int p0), .val (.int p1), .val (.int key), .unset, .unset] [(.int (9 : Int32)), (.ref b1), (.ref b1)])) (fun _ ks => XS.bipush X19.here hx rfl (hb hby at_65)  ks) ?_
    refine Dn.by (U' := T19.setTop (mkF m 69 #[.val (.int p0), .val (.int p1), .val (.int key), .unset, .unset] [(.int (32 : Int32)), (.int (9 : Int32)), (.ref b1), (.ref b1)])) (fun _ ks => XS.bipush X19.here hx rfl (hb hby at_67)  ks) ?_
    obtain ⟨cl21, Ar21, q21, S21, M21, H21, G21⟩ := id V19b
    obtain ⟨T21, h21, X21, e21, W21, st21⟩ := stI X19 hx hZ e19 Ar21 (j := (9 : Int32)) (inb_of S21 ⟨by decide, by decide⟩) (g := (mkF m 69 #[.val (.int p0), .val (.int p1), .val (.int key), .unset, .unset] [(.int (32 : Int32)), (.int (9 : Int32)), (.ref b1), (.ref b1)])) rfl rfl (hb hby at_69)
    have V21 := Arv.set Ar21 q21 S21 M21 H21 G21 rfl W21 9 rfl (Nat.le_of_ble_eq_true rfl)
    have K22 : Keep h0 h21 [] := (K20.wr W21 (Or.inr sz_b1))
    have z22 : n0 ≤ h21.size := (Nat.le_trans z20 (Keep.of_wr W21).1)
    have V21b : Arv Z h21 b1 k1 .int (21 : Int32) [(.int (-1 : Int32)), (.int (1 : Int32)), (.int (64 : Int32)), (.int (24 : Int32)), (.int (24 : Int32)), (.int (32 : Int32)), (.int (32 : Int32)), (.int (1 : Int32)), (.int (32 : Int32)), (.int (32 : Int32)), (.int (0 : Int32)), (.int (0 : Int32)), (.int (0 : Int32)), (.int (0 : Int32)), (.int (0 : Int32)), (.int (0 : Int32)), (.int (0 : Int32)), (.int (0 : Int32)), (.int (0 : Int32)), (.int (0 : Int32)), (.int (0 : Int32))] (.int (0 : Int32)) := V21
    have N21 := Fr.snoc X21 N19 g_b1
    refine Dn.by (U' := T21.setTop (mkF m 70 #[.val (.int p0), .val (.int p1), .val (.int key), .unset, .unset] [(.ref b1)])) st21 ?_
    refine Dn.by (U' := T21.setTop (mkF m 71 #[.val (.int p0), .val (.int p1), .val (.int key), .unset, .unset] [(.ref b1), (.ref b1)])) (fun _ ks => XS.dup X21.here hx rfl (hb hby at_70) rfl rfl ks) ?_
    refine Dn.by (U' := T21.setTop (mkF m 73 #[.val (.int p0), .val (.int p1), .val (.int key), .unset, .unset] [(.int (10 : Int32)), (.ref b1), (.ref b1)])) (fun _ ks => XS.bipush X21.here hx rfl (hb hby at_71)  ks) ?_
    refine Dn.by (U' := T21.setTop (mkF m 75 #[.val (.int p0), .val (.int p1), .val (.int key), .unset, .unset] [(.int (24 : Int32)), (.int (10 : Int32)), (.ref b1), (.ref b1)])) (fun _ ks => XS.bipush X21.here hx rfl (hb hby at_73)  ks) ?_
    obtain ⟨cl23, Ar23, q23, S23, M23, H23, G23⟩ := id V21b
    obtain ⟨T23, h23, X23, e23, W23, st23⟩ := stI X21 hx hZ e21 Ar23 (j := (10 : Int32)) (inb_of S23 ⟨by decide, by decide⟩) (g := (mkF m 75 #[.val (.int p0), .val (.int p1), .val (.int key), .unset, .unset] [(.int (24 : Int32)), (.int (10 : Int32)), (.ref b1), (.ref b1)])) rfl rfl (hb hby at_75)
    have V23 := Arv.set Ar23 q23 S23 M23 H23 G23 rfl W23 10 rfl (Nat.le_of_ble_eq_true rfl)
    have K24 : Keep h0 h23 [] := (K22.wr W23 (Or.inr sz_b1))
    have z24 : n0 ≤ h23.size := (Nat.le_trans z22 (Keep.of_wr W23).1)
    have V23b : Arv Z h23 b1 k1 .int (21 : Int32) [(.int (-1 : Int32)), (.int (1 : Int32)), (.int (64 : Int32)), (.int (24 : Int32)), (.int (24 : Int32)), (.int (32 : Int32)), (.int (32 : Int32)), (.int (1 : Int32)), (.int (32 : Int32)), (.int (32 : Int32)), (.int (24 : Int32)), (.int (0 : Int32)), (.int (0 : Int32)), (.int (0 : Int32)), (.int (0 : Int32)), (.int (0 : Int32)), (.int (0 : Int32)), (.int (0 : Int32)), (.int (0 : Int32)), (.int (0 : Int32)), (.int (0 : Int32))] (.int (0 : Int32)) := V23
    have N23 := Fr.snoc X23 N21 g_b1
    refine Dn.by (U' := T23.setTop (mkF m 76 #[.val (.int p0), .val (.int p1), .val (.int key), .unset, .unset] [(.ref b1)])) st23 ?_
    refine Dn.by (U' := T23.setTop (mkF m 77 #[.val (.int p0), .val (.int p1), .val (.int key), .unset, .unset] [(.ref b1), (.ref b1)])) (fun _ ks => XS.dup X23.here hx rfl (hb hby at_76) rfl rfl ks) ?_
    refine Dn.by (U' := T23.setTop (mkF m 79 #[.val (.int p0), .val (.int p1), .val (.int key), .unset, .unset] [(.int (11 : Int32)), (.ref b1), (.ref b1)])) (fun _ ks => XS.bipush X23.here hx rfl (hb hby at_77)  ks) ?_
    refine Dn.by (U' := T23.setTop (mkF m 81 #[.val (.int p0), .val (.int p1), .val (.int key), .unset, .unset] [(.int (8 : Int32)), (.int (11 : Int32)), (.ref b1), (.ref b1)])) (fun _ ks => XS.bipush X23.here hx rfl (hb hby at_79)  ks) ?_
    obtain ⟨cl25, Ar25, q25, S25, M25, H25, G25⟩ := id V23b
    obtain ⟨T25, h25, X25, e25, W25, st25⟩ := stI X23 hx hZ e23 Ar25 (j := (11 : Int32)) (inb_of S25 ⟨by decide, by decide⟩) (g := (mkF m 81 #[.val (.int p0), .val (.int p1), .val (.int key), .unset, .unset] [(.int (8 : Int32)), (.int (11 : Int32)), (.ref b1), (.ref b1)])) rfl rfl (hb hby at_81)
    have V25 := Arv.set Ar25 q25 S25 M25 H25 G25 rfl W25 11 rfl (Nat.le_of_ble_eq_true rfl)
    have K26 : Keep h0 h25 [] := (K24.wr W25 (Or.inr sz_b1))
    have z26 : n0 ≤ h25.size := (Nat.le_trans z24 (Keep.of_wr W25).1)
    have V25b : Arv Z h25 b1 k1 .int (21 : Int32) [(.int (-1 : Int32)), (.int (1 : Int32)), (.int (64 : Int32)), (.int (24 : Int32)), (.int (24 : Int32)), (.int (32 : Int32)), (.int (32 : Int32)), (.int (1 : Int32)), (.int (32 : Int32)), (.int (32 : Int32)), (.int (24 : Int32)), (.int (8 : Int32)), (.int (0 : Int32)), (.int (0 : Int32)), (.int (0 : Int32)), (.int (0 : Int32)), (.int (0 : Int32)), (.int (0 : Int32)), (.int (0 : Int32)), (.int (0 : Int32)), (.int (0 : Int32))] (.int (0 : Int32)) := V25
    have N25 := Fr.snoc X25 N23 g_b1
    refine Dn.by (U' := T25.setTop (mkF m 82 #[.val (.int p0), .val (.int p1), .val (.int key), .unset, .unset] [(.ref b1)])) st25 ?_
    refine Dn.by (U' := T25.setTop (mkF m 83 #[.val (.int p0), .val (.int p1), .val (.int key), .unset, .unset] [(.ref b1), (.ref b1)])) (fun _ ks => XS.dup X25.here hx rfl (hb hby at_82) rfl rfl ks) ?_
    refine Dn.by (U' := T25.setTop (mkF m 85 #[.val (.int p0), .val (.int p1), .val (.int key), .unset, .unset] [(.int (12 : Int32)), (.ref b1), (.ref b1)])) (fun _ ks => XS.bipush X25.here hx rfl (hb hby at_83)  ks) ?_
    refine Dn.by (U' := T25.setTop (mkF m 86 #[.val (.int p0), .val (.int p1), .val (.int key), .unset, .unset] [(.int (-1 : Int32)), (.int (12 : Int32)), (.ref b1), (.ref b1)])) (fun _ ks => XS.iconst X25.here hx rfl (hb hby at_85)  ks) ?_
    obtain ⟨cl27, Ar27, q27, S27, M27, H27, G27⟩ := id V25b
    obtain ⟨T27, h27, X27, e27, W27, st27⟩ := stI X25 hx hZ e25 Ar27 (j := (12 : Int32)) (inb_of S27 ⟨by decide, by decide⟩) (g := (mkF m 86 #[.val (.int p0), .val (.int p1), .val (.int key), .unset, .unset] [(.int (-1 : Int32)), (.int (12 : Int32)), (.ref b1), (.ref b1)])) rfl rfl (hb hby at_86)
    have V27 := Arv.set Ar27 q27 S27 M27 H27 G27 rfl W27 12 rfl (Nat.le_of_ble_eq_true rfl)
    have K28 : Keep h0 h27 [] := (K26.wr W27 (Or.inr sz_b1))
    have z28 : n0 ≤ h27.size := (Nat.le_trans z26 (Keep.of_wr W27).1)
    have V27b : Arv Z h27 b1 k1 .int (21 : Int32) [(.int (-1 : Int32)), (.int (1 : Int32)), (.int (64 : Int32)), (.int (24 : Int32)), (.int (24 : Int32)), (.int (32 : Int32)), (.int (32 : Int32)), (.int (1 : Int32)), (.int (32 : Int32)), (.int (32 : Int32)), (.int (24 : Int32)), (.int (8 : Int32)), (.int (-1 : Int32)), (.int (0 : Int32)), (.int (0 : Int32)), (.int (0 : Int32)), (.int (0 : Int32)), (.int (0 : Int32)), (.int (0 : Int32)), (.int (0 : Int32)), (.int (0 : Int32))] (.int (0 : Int32)) := V27
    have N27 := Fr.snoc X27 N25 g_b1
    refine Dn.by (U' := T27.setTop (mkF m 87 #[.val (.int p0), .val (.int p1), .val (.int key), .unset, .unset] [(.ref b1)])) st27 ?_
    refine Dn.by (U' := T27.setTop (mkF m 88 #[.val (.int p0), .val (.int p1), .val (.int key), .unset, .unset] [(.ref b1), (.ref b1)])) (fun _ ks => XS.dup X27.here hx rfl (hb hby at_87) rfl rfl ks) ?_
    refine Dn.by (U' := T27.setTop (mkF m 90 #[.val (.int p0), .val (.int p1), .val (.int key), .unset, .unset] [(.int (13 : Int32)), (.ref b1), (.ref b1)])) (fun _ ks => XS.bipush X27.here hx rfl (hb hby at_88)  ks) ?_
    refine Dn.by (U' := T27.setTop (mkF m 91 #[.val (.int p0), .val (.int p1), .val (.int key), .unset, .unset] [(.int (-1 : Int32)), (.int (13 : Int32)), (.ref b1), (.ref b1)])) (fun _ ks => XS.iconst X27.here hx rfl (hb hby at_90)  ks) ?_
    obtain ⟨cl29, Ar29, q29, S29, M29, H29, G29⟩ := id V27b
    obtain ⟨T29, h29, X29, e29, W29, st29⟩ := stI X27 hx hZ e27 Ar29 (j := (13 : Int32)) (inb_of S29 ⟨by decide, by decide⟩) (g := (mkF m 91 #[.val (.int p0), .val (.int p1), .val (.int key), .unset, .unset] [(.int (-1 : Int32)), (.int (13 : Int32)), (.ref b1), (.ref b1)])) rfl rfl (hb hby at_91)
    have V29 := Arv.set Ar29 q29 S29 M29 H29 G29 rfl W29 13 rfl (Nat.le_of_ble_eq_true rfl)
    have K30 : Keep h0 h29 [] := (K28.wr W29 (Or.inr sz_b1))
    have z30 : n0 ≤ h29.size := (Nat.le_trans z28 (Keep.of_wr W29).1)
    have V29b : Arv Z h29 b1 k1 .int (21 : Int32) [(.int (-1 : Int32)), (.int (1 : Int32)), (.int (64 : Int32)), (.int (24 : Int32)), (.int (24 : Int32)), (.int (32 : Int32)), (.int (32 : Int32)), (.int (1 : Int32)), (.int (32 : Int32)), (.int (32 : Int32)), (.int (24 : Int32)), (.int (8 : Int32)), (.int (-1 : Int32)), (.int (-1 : Int32)), (.int (0 : Int32)), (.int (0 : Int32)), (.int (0 : Int32)), (.int (0 : Int32)), (.int (0 : Int32)), (.int (0 : Int32)), (.int (0 : Int32))] (.int (0 : Int32)) := V29
    have N29 := Fr.snoc X29 N27 g_b1
    refine Dn.by (U' := T29.setTop (mkF m 92 #[.val (.int p0), .val (.int p1), .val (.int key), .unset, .unset] [(.ref b1)])) st29 ?_
    refine Dn.by (U' := T29.setTop (mkF m 93 #[.val (.int p0), .val (.int p1), .val (.int key), .unset, .unset] [(.ref b1), (.ref b1)])) (fun _ ks => XS.dup X29.here hx rfl (hb hby at_92) rfl rfl ks) ?_
    refine Dn.by (U' := T29.setTop (mkF m 95 #[.val (.int p0), .val (.int p1), .val (.int key), .unset, .unset] [(.int (14 : Int32)), (.ref b1), (.ref b1)])) (fun _ ks => XS.bipush X29.here hx rfl (hb hby at_93)  ks) ?_
    refine Dn.by (U' := T29.setTop (mkF m 96 #[.val (.int p0), .val (.int p1), .val (.int key), .unset, .unset] [(.int (-1 : Int32)), (.int (14 : Int32)), (.ref b1), (.ref b1)])) (fun _ ks => XS.iconst X29.here hx rfl (hb hby at_95)  ks) ?_
    obtain ⟨cl31, Ar31, q31, S31, M31, H31, G31⟩ := id V29b
    obtain ⟨T31, h31, X31, e31, W31, st31⟩ := stI X29 hx hZ e29 Ar31 (j := (14 : Int32)) (inb_of S31 ⟨by decide, by decide⟩) (g := (mkF m 96 #[.val (.int p0), .val (.int p1), .val (.int key), .unset, .unset] [(.int (-1 : Int32)), (.int (14 : Int32)), (.ref b1), (.ref b1)])) rfl rfl (hb hby at_96)
    have V31 := Arv.set Ar31 q31 S31 M31 H31 G31 rfl W31 14 rfl (Nat.le_of_ble_eq_true rfl)
    have K32 : Keep h0 h31 [] := (K30.wr W31 (Or.inr sz_b1))
    have z32 : n0 ≤ h31.size := (Nat.le_trans z30 (Keep.of_wr W31).1)
    have V31b : Arv Z h31 b1 k1 .int (21 : Int32) [(.int (-1 : Int32)), (.int (1 : Int32)), (.int (64 : Int32)), (.int (24 : Int32)), (.int (24 : Int32)), (.int (32 : Int32)), (.int (32 : Int32)), (.int (1 : Int32)), (.int (32 : Int32)), (.int (32 : Int32)), (.int (24 : Int32)), (.int (8 : Int32)), (.int (-1 : Int32)), (.int (-1 : Int32)), (.int (-1 : Int32)), (.int (0 : Int32)), (.int (0 : Int32)), (.int (0 : Int32)), (.int (0 : Int32)), (.int (0 : Int32)), (.int (0 : Int32))] (.int (0 : Int32)) := V31
    have N31 := Fr.snoc X31 N29 g_b1
    refine Dn.by (U' := T31.setTop (mkF m 97 #[.val (.int p0), .val (.int p1), .val (.int key), .unset, .unset] [(.ref b1)])) st31 ?_
    refine Dn.by (U' := T31.setTop (mkF m 98 #[.val (.int p0), .val (.int p1), .val (.int key), .unset, .unset] [(.ref b1), (.ref b1)])) (fun _ ks => XS.dup X31.here hx rfl (hb hby at_97) rfl rfl ks) ?_
    refine Dn.by (U' := T31.setTop (mkF m 100 #[.val (.int p0), .val (.int p1), .val (.int key), .unset, .unset] [(.int (15 : Int32)), (.ref b1), (.ref b1)])) (fun _ ks => XS.bipush X31.here hx rfl (hb hby at_98)  ks) ?_
    refine Dn.by (U' := T31.setTop (mkF m 102 #[.val (.int p0), .val (.int p1), .val (.int key), .unset, .unset] [(.int (8 : Int32)), (.int (15 : Int32)), (.ref b1), (.ref b1)])) (fun _ ks => XS.bipush X31.here hx rfl (hb hby at_100)  ks) ?_
    obtain ⟨cl33, Ar33, q33, S33, M33, H33, G33⟩ := id V31b
    obtain ⟨T33, h33, X33, e33, W33, st33⟩ := stI X31 hx hZ e31 Ar33 (j := (15 : Int32)) (inb_of S33 ⟨by decide, by decide⟩) (g := (mkF m 102 #[.val (.int p0), .val (.int p1), .val (.int key), .unset, .unset] [(.int (8 : Int32)), (.int (15 : Int32)), (.ref b1), (.ref b1)])) rfl rfl (hb hby at_102)
    have V33 := Arv.set Ar33 q33 S33 M33 H33 G33 rfl W33 15 rfl (Nat.le_of_ble_eq_true rfl)
    have K34 : Keep h0 h33 [] := (K32.wr W33 (Or.inr sz_b1))
    have z34 : n0 ≤ h33.size := (Nat.le_trans z32 (Keep.of_wr W33).1)
    have V33b : Arv Z h33 b1 k1 .int (21 : Int32) [(.int (-1 : Int32)), (.int (1 : Int32)), (.int (64 : Int32)), (.int (24 : Int32)), (.int (24 : Int32)), (.int (32 : Int32)), (.int (32 : Int32)), (.int (1 : Int32)), (.int (32 : Int32)), (.int (32 : Int32)), (.int (24 : Int32)), (.int (8 : Int32)), (.int (-1 : Int32)), (.int (-1 : Int32)), (.int (-1 : Int32)), (.int (8 : Int32)), (.int (0 : Int32)), (.int (0 : Int32)), (.int (0 : Int32)), (.int (0 : Int32)), (.int (0 : Int32))] (.int (0 : Int32)) := V33
    have N33 := Fr.snoc X33 N31 g_b1
    refine Dn.by (U' := T33.setTop (mkF m 103 #[.val (.int p0), .val (.int p1), .val (.int key), .unset, .unset] [(.ref b1)])) st33 ?_
    refine Dn.by (U' := T33.setTop (mkF m 104 #[.val (.int p0), .val (.int p1), .val (.int key), .unset, .unset] [(.ref b1), (.ref b1)])) (fun _ ks => XS.dup X33.here hx rfl (hb hby at_103) rfl rfl ks) ?_
    refine Dn.by (U' := T33.setTop (mkF m 106 #[.val (.int p0), .val (.int p1), .val (.int key), .unset, .unset] [(.int (16 : Int32)), (.ref b1), (.ref b1)])) (fun _ ks => XS.bipush X33.here hx rfl (hb hby at_104)  ks) ?_
    refine Dn.by (U' := T33.setTop (mkF m 108 #[.val (.int p0), .val (.int p1), .val (.int key), .unset, .unset] [(.int (32 : Int32)), (.int (16 : Int32)), (.ref b1), (.ref b1)])) (fun _ ks => XS.bipush X33.here hx rfl (hb hby at_106)  ks) ?_
    obtain ⟨cl35, Ar35, q35, S35, M35, H35, G35⟩ := id V33b
    obtain ⟨T35, h35, X35, e35, W35, st35⟩ := stI X33 hx hZ e33 Ar35 (j := (16 : Int32)) (inb_of S35 ⟨by decide, by decide⟩) (g := (mkF m 108 #[.val (.int p0), .val (.int p1), .val (.int key), .unset, .unset] [(.int (32 : Int32)), (.int (16 : Int32)), (.ref b1), (.ref b1)])) rfl rfl (hb hby at_108)
    have V35 := Arv.set Ar35 q35 S35 M35 H35 G35 rfl W35 16 rfl (Nat.le_of_ble_eq_true rfl)
    have K36 : Keep h0 h35 [] := (K34.wr W35 (Or.inr sz_b1))
    have z36 : n0 ≤ h35.size := (Nat.le_trans z34 (Keep.of_wr W35).1)
    have V35b : Arv Z h35 b1 k1 .int (21 : Int32) [(.int (-1 : Int32)), (.int (1 : Int32)), (.int (64 : Int32)), (.int (24 : Int32)), (.int (24 : Int32)), (.int (32 : Int32)), (.int (32 : Int32)), (.int (1 : Int32)), (.int (32 : Int32)), (.int (32 : Int32)), (.int (24 : Int32)), (.int (8 : Int32)), (.int (-1 : Int32)), (.int (-1 : Int32)), (.int (-1 : Int32)), (.int (8 : Int32)), (.int (32 : Int32)), (.int (0 : Int32)), (.int (0 : Int32)), (.int (0 : Int32)), (.int (0 : Int32))] (.int (0 : Int32)) := V35
    have N35 := Fr.snoc X35 N33 g_b1
    refine Dn.by (U' := T35.setTop (mkF m 109 #[.val (.int p0), .val (.int p1), .val (.int key), .unset, .unset] [(.ref b1)])) st35 ?_
    refine Dn.by (U' := T35.setTop (mkF m 110 #[.val (.int p0), .val (.int p1), .val (.int key), .unset, .unset] [(.ref b1), (.ref b1)])) (fun _ ks => XS.dup X35.here hx rfl (hb hby at_109) rfl rfl ks) ?_
    refine Dn.by (U' := T35.setTop (mkF m 112 #[.val (.int p0), .val (.int p1), .val (.int key), .unset, .unset] [(.int (17 : Int32)), (.ref b1), (.ref b1)])) (fun _ ks => XS.bipush X35.here hx rfl (hb hby at_110)  ks) ?_
    refine Dn.by (U' := T35.setTop (mkF m 113 #[.val (.int p0), .val (.int p1), .val (.int key), .unset, .unset] [(.int (-1 : Int32)), (.int (17 : Int32)), (.ref b1), (.ref b1)])) (fun _ ks => XS.iconst X35.here hx rfl (hb hby at_112)  ks) ?_
    obtain ⟨cl37, Ar37, q37, S37, M37, H37, G37⟩ := id V35b
    obtain ⟨T37, h37, X37, e37, W37, st37⟩ := stI X35 hx hZ e35 Ar37 (j := (17 : Int32)) (inb_of S37 ⟨by decide, by decide⟩) (g := (mkF m 113 #[.val (.int p0), .val (.int p1), .val (.int key), .unset, .unset] [(.int (-1 : Int32)), (.int (17 : Int32)), (.ref b1), (.ref b1)])) rfl rfl (hb hby at_113)
    have V37 := Arv.set Ar37 q37 S37 M37 H37 G37 rfl W37 17 rfl (Nat.le_of_ble_eq_true rfl)
    have K38 : Keep h0 h37 [] := (K36.wr W37 (Or.inr sz_b1))
    have z38 : n0 ≤ h37.size := (Nat.le_trans z36 (Keep.of_wr W37).1)
    have V37b : Arv Z h37 b1 k1 .int (21 : Int32) [(.int (-1 : Int32)), (.int (1 : Int32)), (.int (64 : Int32)), (.int (24 : Int32)), (.int (24 : Int32)), (.int (32 : Int32)), (.int (32 : Int32)), (.int (1 : Int32)), (.int (32 : Int32)), (.int (32 : Int32)), (.int (24 : Int32)), (.int (8 : Int32)), (.int (-1 : Int32)), (.int (-1 : Int32)), (.int (-1 : Int32)), (.int (8 : Int32)), (.int (32 : Int32)), (.int (-1 : Int32)), (.int (0 : Int32)), (.int (0 : Int32)), (.int (0 : Int32))] (.int (0 : Int32)) := V37
    have N37 := Fr.snoc X37 N35 g_b1
    refine Dn.by (U' := T37.setTop (mkF m 114 #[.val (.int p0), .val (.int p1), .val (.int key), .unset, .unset] [(.ref b1)])) st37 ?_
    refine Dn.by (U' := T37.setTop (mkF m 115 #[.val (.int p0), .val (.int p1), .val (.int key), .unset, .unset] [(.ref b1), (.ref b1)])) (fun _ ks => XS.dup X37.here hx rfl (hb hby at_114) rfl rfl ks) ?_
    refine Dn.by (U' := T37.setTop (mkF m 117 #[.val (.int p0), .val (.int p1), .val (.int key), .unset, .unset] [(.int (18 : Int32)), (.ref b1), (.ref b1)])) (fun _ ks => XS.bipush X37.here hx rfl (hb hby at_115)  ks) ?_
    refine Dn.by (U' := T37.setTop (mkF m 119 #[.val (.int p0), .val (.int p1), .val (.int key), .unset, .unset] [(.int (32 : Int32)), (.int (18 : Int32)), (.ref b1), (.ref b1)])) (fun _ ks => XS.bipush X37.here hx rfl (hb hby at_117)  ks) ?_
    obtain ⟨cl39, Ar39, q39, S39, M39, H39, G39⟩ := id V37b
    obtain ⟨T39, h39, X39, e39, W39, st39⟩ := stI X37 hx hZ e37 Ar39 (j := (18 : Int32)) (inb_of S39 ⟨by decide, by decide⟩) (g := (mkF m 119 #[.val (.int p0), .val (.int p1), .val (.int key), .unset, .unset] [(.int (32 : Int32)), (.int (18 : Int32)), (.ref b1), (.ref b1)])) rfl rfl (hb hby at_119)
    have V39 := Arv.set Ar39 q39 S39 M39 H39 G39 rfl W39 18 rfl (Nat.le_of_ble_eq_true rfl)
    have K40 : Keep h0 h39 [] := (K38.wr W39 (Or.inr sz_b1))
    have z40 : n0 ≤ h39.size := (Nat.le_trans z38 (Keep.of_wr W39).1)
    have V39b : Arv Z h39 b1 k1 .int (21 : Int32) [(.int (-1 : Int32)), (.int (1 : Int32)), (.int (64 : Int32)), (.int (24 : Int32)), (.int (24 : Int32)), (.int (32 : Int32)), (.int (32 : Int32)), (.int (1 : Int32)), (.int (32 : Int32)), (.int (32 : Int32)), (.int (24 : Int32)), (.int (8 : Int32)), (.int (-1 : Int32)), (.int (-1 : Int32)), (.int (-1 : Int32)), (.int (8 : Int32)), (.int (32 : Int32)), (.int (-1 : Int32)), (.int (32 : Int32)), (.int (0 : Int32)), (.int (0 : Int32))] (.int (0 : Int32)) := V39
    have N39 := Fr.snoc X39 N37 g_b1
    refine Dn.by (U' := T39.setTop (mkF m 120 #[.val (.int p0), .val (.int p1), .val (.int key), .unset, .unset] [(.ref b1)])) st39 ?_
    refine Dn.by (U' := T39.setTop (mkF m 121 #[.val (.int p0), .val (.int p1), .val (.int key), .unset, .unset] [(.ref b1), (.ref b1)])) (fun _ ks => XS.dup X39.here hx rfl (hb hby at_120) rfl rfl ks) ?_
    refine Dn.by (U' := T39.setTop (mkF m 123 #[.val (.int p0), .val (.int p1), .val (.int key), .unset, .unset] [(.int (19 : Int32)), (.ref b1), (.ref b1)])) (fun _ ks => XS.bipush X39.here hx rfl (hb hby at_121)  ks) ?_
    refine Dn.by (U' := T39.setTop (mkF m 125 #[.val (.int p0), .val (.int p1), .val (.int key), .unset, .unset] [(.int (32 : Int32)), (.int (19 : Int32)), (.ref b1), (.ref b1)])) (fun _ ks => XS.bipush X39.here hx rfl (hb hby at_123)  ks) ?_
    obtain ⟨cl41, Ar41, q41, S41, M41, H41, G41⟩ := id V39b
    obtain ⟨T41, h41, X41, e41, W41, st41⟩ := stI X39 hx hZ e39 Ar41 (j := (19 : Int32)) (inb_of S41 ⟨by decide, by decide⟩) (g := (mkF m 125 #[.val (.int p0), .val (.int p1), .val (.int key), .unset, .unset] [(.int (32 : Int32)), (.int (19 : Int32)), (.ref b1), (.ref b1)])) rfl rfl (hb hby at_125)
    have V41 := Arv.set Ar41 q41 S41 M41 H41 G41 rfl W41 19 rfl (Nat.le_of_ble_eq_true rfl)
    have K42 : Keep h0 h41 [] := (K40.wr W41 (Or.inr sz_b1))
    have z42 : n0 ≤ h41.size := (Nat.le_trans z40 (Keep.of_wr W41).1)
    have V41b : Arv Z h41 b1 k1 .int (21 : Int32) [(.int (-1 : Int32)), (.int (1 : Int32)), (.int (64 : Int32)), (.int (24 : Int32)), (.int (24 : Int32)), (.int (32 : Int32)), (.int (32 : Int32)), (.int (1 : Int32)), (.int (32 : Int32)), (.int (32 : Int32)), (.int (24 : Int32)), (.int (8 : Int32)), (.int (-1 : Int32)), (.int (-1 : Int32)), (.int (-1 : Int32)), (.int (8 : Int32)), (.int (32 : Int32)), (.int (-1 : Int32)), (.int (32 : Int32)), (.int (32 : Int32)), (.int (0 : Int32))] (.int (0 : Int32)) := V41
    have N41 := Fr.snoc X41 N39 g_b1
    refine Dn.by (U' := T41.setTop (mkF m 126 #[.val (.int p0), .val (.int p1), .val (.int key), .unset, .unset] [(.ref b1)])) st41 ?_
    refine Dn.by (U' := T41.setTop (mkF m 127 #[.val (.int p0), .val (.int p1), .val (.int key), .unset, .unset] [(.ref b1), (.ref b1)])) (fun _ ks => XS.dup X41.here hx rfl (hb hby at_126) rfl rfl ks) ?_
    refine Dn.by (U' := T41.setTop (mkF m 129 #[.val (.int p0), .val (.int p1), .val (.int key), .unset, .unset] [(.int (20 : Int32)), (.ref b1), (.ref b1)])) (fun _ ks => XS.bipush X41.here hx rfl (hb hby at_127)  ks) ?_
    refine Dn.by (U' := T41.setTop (mkF m 131 #[.val (.int p0), .val (.int p1), .val (.int key), .unset, .unset] [(.int (32 : Int32)), (.int (20 : Int32)), (.ref b1), (.ref b1)])) (fun _ ks => XS.bipush X41.here hx rfl (hb hby at_129)  ks) ?_
    obtain ⟨cl43, Ar43, q43, S43, M43, H43, G43⟩ := id V41b
    obtain ⟨T43, h43, X43, e43, W43, st43⟩ := stI X41 hx hZ e41 Ar43 (j := (20 : Int32)) (inb_of S43 ⟨by decide, by decide⟩) (g := (mkF m 131 #[.val (.int p0), .val (.int p1), .val (.int key), .unset, .unset] [(.int (32 : Int32)), (.int (20 : Int32)), (.ref b1), (.ref b1)])) rfl rfl (hb hby at_131)
    have V43 := Arv.set Ar43 q43 S43 M43 H43 G43 rfl W43 20 rfl (Nat.le_of_ble_eq_true rfl)
    have K44 : Keep h0 h43 [] := (K42.wr W43 (Or.inr sz_b1))
    have z44 : n0 ≤ h43.size := (Nat.le_trans z42 (Keep.of_wr W43).1)
    have V43b : Arv Z h43 b1 k1 .int (21 : Int32) [(.int (-1 : Int32)), (.int (1 : Int32)), (.int (64 : Int32)), (.int (24 : Int32)), (.int (24 : Int32)), (.int (32 : Int32)), (.int (32 : Int32)), (.int (1 : Int32)), (.int (32 : Int32)), (.int (32 : Int32)), (.int (24 : Int32)), (.int (8 : Int32)), (.int (-1 : Int32)), (.int (-1 : Int32)), (.int (-1 : Int32)), (.int (8 : Int32)), (.int (32 : Int32)), (.int (-1 : Int32)), (.int (32 : Int32)), (.int (32 : Int32)), (.int (32 : Int32))] (.int (0 : Int32)) := V43
    have N43 := Fr.snoc X43 N41 g_b1
    refine Dn.by (U' := T43.setTop (mkF m 132 #[.val (.int p0), .val (.int p1), .val (.int key), .unset, .unset] [(.ref b1)])) st43 ?_
    refine Dn.by (U' := T43.setTop (mkF m 133 #[.val (.int p0), .val (.int p1), .val (.int key), .val (.ref b1), .unset] [])) (fun _ ks => XS.astoreN X43.here hx rfl (hb hby at_132) rfl rfl (l' := #[.val (.int p0), .val (.int p1), .val (.int key), .val (.ref b1), .unset]) rfl ks) ?_
    refine Dn.by (U' := T43.setTop (mkF m 134 #[.val (.int p0), .val (.int p1), .val (.int key), .val (.ref b1), .unset] [(.int key)])) (fun _ ks => XS.iloadN X43.here hx rfl (hb hby at_133) rfl ks) ?_
    by_cases c134_45 : key < (0 : Int32)
    ·
      refine Dn.by (U' := T43.setTop (mkF m 149 #[.val (.int p0), .val (.int p1), .val (.int key), .val (.ref b1), .unset] [])) (fun _ ks => XS.ifYes X43.here hx rfl (pc0 := 134) (pc' := 149) rfl (hb hby at_134) rfl ((if0 _ _).trans (tlt c134_45).1) (by decide) (by decide) ks) ?_
      refine Dn.by (U' := T43.setTop (mkF m 150 #[.val (.int p0), .val (.int p1), .val (.int key), .val (.ref b1), .unset] [(.int (-1 : Int32))])) (fun _ ks => XS.iconst X43.here hx rfl (hb hby at_149)  ks) ?_
      refine Dn.by (U' := T43.setTop (mkF m 152 #[.val (.int p0), .val (.int p1), .val (.int key), .val (.ref b1), .val (.int (-1 : Int32))] [])) (fun _ ks => XS.istore X43.here hx rfl (hb hby at_150) rfl (l' := #[.val (.int p0), .val (.int p1), .val (.int key), .val (.ref b1), .val (.int (-1 : Int32))]) rfl ks) ?_
      refine Dn.by (U' := T43.setTop (mkF m 153 #[.val (.int p0), .val (.int p1), .val (.int key), .val (.ref b1), .val (.int (-1 : Int32))] [(.int key)])) (fun _ ks => XS.iloadN X43.here hx rfl (hb hby at_152) rfl ks) ?_
      obtain ⟨_, _, ⟨T46, L46, k46, n46⟩, -, X46, ⟨Lc46, hQ46, l46, y46, z46⟩, st46⟩ := Jvm.LawKit.callS X43 hx (y := (⟨"com/example/ferrywire/ferrywire/wire/CellKeys", "valueLength", "(I)I"⟩ : MethodName)) hown (mvT hZ (hw _ (List.mem_of_getElem? (i := 1) rfl))) (mvT hZ (hw _ (List.mem_of_getElem? (i := 2) rfl))) (mvT hZ (hw _ (List.mem_of_getElem? (i := 3) rfl))) (mvT hZ (hw _ (List.mem_of_getElem? (i := 4) rfl))) (by decide) (backOf (W := 0) (rm1 l Z a0 hw [] key  h43 n0 z44 ) hZ (hw _ (List.mem_of_getElem? (i := 4) rfl)) (hw _ (List.mem_of_getElem? (i := 3) rfl)) (by decide) (by decide)) (g := (mkF m 153 #[.val (.int p0), .val (.int p1), .val (.int key), .val (.ref b1), .val (.int (-1 : Int32))] [(.int key)])) rfl (by rw [hml]; rfl) (argsL := [(.int key)]) (rest := []) (lenOf pd0 rfl) rfl (by show 2 * 0 + _ ≤ _; exact Nat.le_of_eq rfl) (hb hby at_153) (fun _ _ => ⟨rfl, e43, (by decide : 1 + 0 ≤ _), (by decide : 21 + 0 ≤ _)⟩)
      dsimp only [Pt.U, Pt.locs, Pt.cells, Pt.slots] at X46 l46 y46 z46 st46 hQ46
      rw [l46, y46, z46] at X46
      obtain ⟨rfl, N46q, e46⟩ := hQ46
      have N46 := Fr.app N43 N46q
      refine Dn.by (U' := T46.setTop (mkF m 156 #[.val (.int p0), .val (.int p1), .val (.int key), .val (.ref b1), .val (.int (-1 : Int32))] [(.int (vlen key))])) st46 ?_
      refine Dn.by (U' := T46.setTop (mkF m 158 #[.val (.int p0), .val (.int p1), .val (.int key), .val (.ref b1), .val (.int (-1 : Int32))] [(.int (-1 : Int32)), (.int (vlen key))])) (fun _ ks => XS.iload X46.here hx rfl (hb hby at_156) rfl ks) ?_
      refine Dn.by (U' := T46.setTop (mkF m 161 #[.val (.int p0), .val (.int p1), .val (.int key), .val (.ref b1), .val (.int (-1 : Int32))] [])) (fun _ ks => XS.icmpNo X46.here hx rfl (hb hby at_158) rfl (teq (own_low key c134_45)).2 ks) ?_
      refine Dn.by (U' := T46.setTop (mkF m 162 #[.val (.int p0), .val (.int p1), .val (.int key), .val (.ref b1), .val (.int (-1 : Int32))] [(.int (1 : Int32))])) (fun _ ks => XS.iconst X46.here hx rfl (hb hby at_161)  ks) ?_
      refine Dn.by (U' := T46.setTop (mkF m 166 #[.val (.int p0), .val (.int p1), .val (.int key), .val (.ref b1), .val (.int (-1 : Int32))] [(.int (1 : Int32))])) (fun _ ks => XS.goto X46.here hx rfl (pc0 := 162) (pc' := 166) rfl (hb hby at_162) (by decide) (by decide) ks) ?_
      refine Dn.out X46 (v := (some (.int (1 : Int32)))) (fun h => by rw [Bd.returns] at h; cases h) (BodyLoose.notSynchronized Bd) (fun _ hr => retN X46 hx (t := .boolean) Bd.returns (by simp) (hb hby at_166) hr) (by decide) (by decide) ?_
      rw [e46]
      exact ⟨rfl, N46⟩
    ·
      refine Dn.by (U' := T43.setTop (mkF m 137 #[.val (.int p0), .val (.int p1), .val (.int key), .val (.ref b1), .unset] [])) (fun _ ks => XS.ifNo X43.here hx rfl (hb hby at_134) rfl ((if0 _ _).trans (flt c134_45).1) ks) ?_
      refine Dn.by (U' := T43.setTop (mkF m 138 #[.val (.int p0), .val (.int p1), .val (.int key), .val (.ref b1), .unset] [(.int key)])) (fun _ ks => XS.iloadN X43.here hx rfl (hb hby at_137) rfl ks) ?_
      refine Dn.by (U' := T43.setTop (mkF m 140 #[.val (.int p0), .val (.int p1), .val (.int key), .val (.ref b1), .unset] [(.int (21 : Int32)), (.int key)])) (fun _ ks => XS.bipush X43.here hx rfl (hb hby at_138)  ks) ?_
      by_cases c140_47 : key < (21 : Int32)
      ·
        refine Dn.by (U' := T43.setTop (mkF m 143 #[.val (.int p0), .val (.int p1), .val (.int key), .val (.ref b1), .unset] [])) (fun _ ks => XS.icmpNo X43.here hx rfl (hb hby at_140) rfl (tlt c140_47).2.1 ks) ?_
        refine Dn.by (U' := T43.setTop (mkF m 144 #[.val (.int p0), .val (.int p1), .val (.int key), .val (.ref b1), .unset] [(.ref b1)])) (fun _ ks => XS.aloadN X43.here hx rfl (hb hby at_143) rfl rfl ks) ?_
        refine Dn.by (U' := T43.setTop (mkF m 145 #[.val (.int p0), .val (.int p1), .val (.int key), .val (.ref b1), .unset] [(.int key), (.ref b1)])) (fun _ ks => XS.iloadN X43.here hx rfl (hb hby at_144) rfl ks) ?_
        obtain ⟨cl48, Ar48, q48, S48, M48, H48, G48⟩ := id V43b
        have in48 := inb_of (j := key) S48 ⟨c134_45, c140_47⟩
        have at48 : cl48.slots[key.toNatClampNeg]? = some (.int (vlen key)) := H48.at in48 (own_tab key c134_45 c140_47)
        refine Dn.by (U' := T43.setTop (mkF m 146 #[.val (.int p0), .val (.int p1), .val (.int key), .val (.ref b1), .unset] [(.int (vlen key))])) (X43.iaload hx (j := key) (v := (.int (vlen key))) (by rw [e43]; exact Ar48.1) (State.isArrayOf_alike hZ.alike Ar48.2.1) Ar48.2.2 in48 at48 (g := (mkF m 145 #[.val (.int p0), .val (.int p1), .val (.int key), .val (.ref b1), .unset] [(.int key), (.ref b1)])) rfl rfl (hb hby at_145)) ?_
        refine Dn.by (U' := T43.setTop (mkF m 150 #[.val (.int p0), .val (.int p1), .val (.int key), .val (.ref b1), .unset] [(.int (vlen key))])) (fun _ ks => XS.goto X43.here hx rfl (pc0 := 146) (pc' := 150) rfl (hb hby at_146) (by decide) (by decide) ks) ?_
        refine Dn.by (U' := T43.setTop (mkF m 152 #[.val (.int p0), .val (.int p1), .val (.int key), .val (.ref b1), .val (.int (vlen key))] [])) (fun _ ks => XS.istore X43.here hx rfl (hb hby at_150) rfl (l' := #[.val (.int p0), .val (.int p1), .val (.int key), .val (.ref b1), .val (.int (vlen key))]) rfl ks) ?_
        refine Dn.by (U' := T43.setTop (mkF m 153 #[.val (.int p0), .val (.int p1), .val (.int key), .val (.ref b1), .val (.int (vlen key))] [(.int key)])) (fun _ ks => XS.iloadN X43.here hx rfl (hb hby at_152) rfl ks) ?_
        obtain ⟨_, _, ⟨T49, L49, k49, n49⟩, -, X49, ⟨Lc49, hQ49, l49, y49, z49⟩, st49⟩ := Jvm.LawKit.callS X43 hx (y := (⟨"com/example/ferrywire/ferrywire/wire/CellKeys", "valueLength", "(I)I"⟩ : MethodName)) hown (mvT hZ (hw _ (List.mem_of_getElem? (i := 1) rfl))) (mvT hZ (hw _ (List.mem_of_getElem? (i := 2) rfl))) (mvT hZ (hw _ (List.mem_of_getElem? (i := 3) rfl))) (mvT hZ (hw _ (List.mem_of_getElem? (i := 4) rfl))) (by decide) (backOf (W := 0) (rm1 l Z a0 hw [] key  h43 n0 z44 ) hZ (hw _ (List.mem_of_getElem? (i := 4) rfl)) (hw _ (List.mem_of_getElem? (i := 3) rfl)) (by decide) (by decide)) (g := (mkF m 153 #[.val (.int p0), .val (.int p1), .val (.int key), .val (.ref b1), .val (.int (vlen key))] [(.int key)])) rfl (by rw [hml]; rfl) (argsL := [(.int key)]) (rest := []) (lenOf pd0 rfl) rfl (by show 2 * 0 + _ ≤ _; exact Nat.le_of_eq rfl) (hb hby at_153) (fun _ _ => ⟨rfl, e43, (by decide : 1 + 0 ≤ _), (by decide : 21 + 0 ≤ _)⟩)
        dsimp only [Pt.U, Pt.locs, Pt.cells, Pt.slots] at X49 l49 y49 z49 st49 hQ49
        rw [l49, y49, z49] at X49
        obtain ⟨rfl, N49q, e49⟩ := hQ49
        have N49 := Fr.app N43 N49q
        refine Dn.by (U' := T49.setTop (mkF m 156 #[.val (.int p0), .val (.int p1), .val (.int key), .val (.ref b1), .val (.int (vlen key))] [(.int (vlen key))])) st49 ?_
        refine Dn.by (U' := T49.setTop (mkF m 158 #[.val (.int p0), .val (.int p1), .val (.int key), .val (.ref b1), .val (.int (vlen key))] [(.int (vlen key)), (.int (vlen key))])) (fun _ ks => XS.iload X49.here hx rfl (hb hby at_156) rfl ks) ?_
        refine Dn.by (U' := T49.setTop (mkF m 161 #[.val (.int p0), .val (.int p1), .val (.int key), .val (.ref b1), .val (.int (vlen key))] [])) (fun _ ks => XS.icmpNo X49.here hx rfl (hb hby at_158) rfl (teq rfl).2 ks) ?_
        refine Dn.by (U' := T49.setTop (mkF m 162 #[.val (.int p0), .val (.int p1), .val (.int key), .val (.ref b1), .val (.int (vlen key))] [(.int (1 : Int32))])) (fun _ ks => XS.iconst X49.here hx rfl (hb hby at_161)  ks) ?_
        refine Dn.by (U' := T49.setTop (mkF m 166 #[.val (.int p0), .val (.int p1), .val (.int key), .val (.ref b1), .val (.int (vlen key))] [(.int (1 : Int32))])) (fun _ ks => XS.goto X49.here hx rfl (pc0 := 162) (pc' := 166) rfl (hb hby at_162) (by decide) (by decide) ks) ?_
        refine Dn.out X49 (v := (some (.int (1 : Int32)))) (fun h => by rw [Bd.returns] at h; cases h) (BodyLoose.notSynchronized Bd) (fun _ hr => retN X49 hx (t := .boolean) Bd.returns (by simp) (hb hby at_166) hr) (by decide) (by decide) ?_
        rw [e49]
        exact ⟨rfl, N49⟩
      ·
        refine Dn.by (U' := T43.setTop (mkF m 149 #[.val (.int p0), .val (.int p1), .val (.int key), .val (.ref b1), .unset] [])) (fun _ ks => XS.icmpYes X43.here hx rfl (pc0 := 140) (pc' := 149) rfl (hb hby at_140) rfl (flt c140_47).2.1 (by decide) (by decide) ks) ?_
        refine Dn.by (U' := T43.setTop (mkF m 150 #[.val (.int p0), .val (.int p1), .val (.int key), .val (.ref b1), .unset] [(.int (-1 : Int32))])) (fun _ ks => XS.iconst X43.here hx rfl (hb hby at_149)  ks) ?_
        refine Dn.by (U' := T43.setTop (mkF m 152 #[.val (.int p0), .val (.int p1), .val (.int key), .val (.ref b1), .val (.int (-1 : Int32))] [])) (fun _ ks => XS.istore X43.here hx rfl (hb hby at_150) rfl (l' := #[.val (.int p0), .val (.int p1), .val (.int key), .val (.ref b1), .val (.int (-1 : Int32))]) rfl ks) ?_
        refine Dn.by (U' := T43.setTop (mkF m 153 #[.val (.int p0), .val (.int p1), .val (.int key), .val (.ref b1), .val (.int (-1 : Int32))] [(.int key)])) (fun _ ks => XS.iloadN X43.here hx rfl (hb hby at_152) rfl ks) ?_
        obtain ⟨_, _, ⟨T50, L50, k50, n50⟩, -, X50, ⟨Lc50, hQ50, l50, y50, z50⟩, st50⟩ := Jvm.LawKit.callS X43 hx (y := (⟨"com/example/ferrywire/ferrywire/wire/CellKeys", "valueLength", "(I)I"⟩ : MethodName)) hown (mvT hZ (hw _ (List.mem_of_getElem? (i := 1) rfl))) (mvT hZ (hw _ (List.mem_of_getElem? (i := 2) rfl))) (mvT hZ (hw _ (List.mem_of_getElem? (i := 3) rfl))) (mvT hZ (hw _ (List.mem_of_getElem? (i := 4) rfl))) (by decide) (backOf (W := 0) (rm1 l Z a0 hw [] key  h43 n0 z44 ) hZ (hw _ (List.mem_of_getElem? (i := 4) rfl)) (hw _ (List.mem_of_getElem? (i := 3) rfl)) (by decide) (by decide)) (g := (mkF m 153 #[.val (.int p0), .val (.int p1), .val (.int key), .val (.ref b1), .val (.int (-1 : Int32))] [(.int key)])) rfl (by rw [hml]; rfl) (argsL := [(.int key)]) (rest := []) (lenOf pd0 rfl) rfl (by show 2 * 0 + _ ≤ _; exact Nat.le_of_eq rfl) (hb hby at_153) (fun _ _ => ⟨rfl, e43, (by decide : 1 + 0 ≤ _), (by decide : 21 + 0 ≤ _)⟩)
        dsimp only [Pt.U, Pt.locs, Pt.cells, Pt.slots] at X50 l50 y50 z50 st50 hQ50
        rw [l50, y50, z50] at X50
        obtain ⟨rfl, N50q, e50⟩ := hQ50
        have N50 := Fr.app N43 N50q
        refine Dn.by (U' := T50.setTop (mkF m 156 #[.val (.int p0), .val (.int p1), .val (.int key), .val (.ref b1), .val (.int (-1 : Int32))] [(.int (vlen key))])) st50 ?_
        refine Dn.by (U' := T50.setTop (mkF m 158 #[.val (.int p0), .val (.int p1), .val (.int key), .val (.ref b1), .val (.int (-1 : Int32))] [(.int (-1 : Int32)), (.int (vlen key))])) (fun _ ks => XS.iload X50.here hx rfl (hb hby at_156) rfl ks) ?_
        refine Dn.by (U' := T50.setTop (mkF m 161 #[.val (.int p0), .val (.int p1), .val (.int key), .val (.ref b1), .val (.int (-1 : Int32))] [])) (fun _ ks => XS.icmpNo X50.here hx rfl (hb hby at_158) rfl (teq (own_high key c140_47)).2 ks) ?_
        refine Dn.by (U' := T50.setTop (mkF m 162 #[.val (.int p0), .val (.int p1), .val (.int key), .val (.ref b1), .val (.int (-1 : Int32))] [(.int (1 : Int32))])) (fun _ ks => XS.iconst X50.here hx rfl (hb hby at_161)  ks) ?_
        refine Dn.by (U' := T50.setTop (mkF m 166 #[.val (.int p0), .val (.int p1), .val (.int key), .val (.ref b1), .val (.int (-1 : Int32))] [(.int (1 : Int32))])) (fun _ ks => XS.goto X50.here hx rfl (pc0 := 162) (pc' := 166) rfl (hb hby at_162) (by decide) (by decide) ks) ?_
        refine Dn.out X50 (v := (some (.int (1 : Int32)))) (fun h => by rw [Bd.returns] at h; cases h) (BodyLoose.notSynchronized Bd) (fun _ hr => retN X50 hx (t := .boolean) Bd.returns (by simp) (hb hby at_166) hr) (by decide) (by decide) ?_
        rw [e50]
        exact ⟨rfl, N50⟩
  by_cases c3_51 : (p1 &&& (1 : Int32)) = (0 : Int32)
  ·
    refine Dn.by (U' := s₁.setTop (mkF m 13 #[.val (.int p0), .val (.int p1), .unset, .unset, .unset] [])) (fun _ ks => XS.ifYes X0.here hx rfl (pc0 := 3) (pc' := 13) rfl (hb hby at_3) rfl ((if0 _ _).trans (teq c3_51).1) (by decide) (by decide) ks) ?_
    refine Dn.by (U' := s₁.setTop (mkF m 14 #[.val (.int p0), .val (.int p1), .unset, .unset, .unset] [(.int p0)])) (fun _ ks => XS.iloadN X0.here hx rfl (hb hby at_13) rfl ks) ?_
    exact J _
  ·
    refine Dn.by (U' := s₁.setTop (mkF m 6 #[.val (.int p0), .val (.int p1), .unset, .unset, .unset] [])) (fun _ ks => XS.ifNo X0.here hx rfl (hb hby at_3) rfl ((if0 _ _).trans (feq c3_51).1) ks) ?_
    refine Dn.by (U' := s₁.setTop (mkF m 7 #[.val (.int p0), .val (.int p1), .unset, .unset, .unset] [(.int p0)])) (fun _ ks => XS.iloadN X0.here hx rfl (hb hby at_6) rfl ks) ?_
    refine Dn.by (U' := s₁.setTop (mkF m 9 #[.val (.int p0), .val (.int p1), .unset, .unset, .unset] [(.int (31 : Int32)), (.int p0)])) (fun _ ks => XS.bipush X0.here hx rfl (hb hby at_7)  ks) ?_
    refine Dn.by (U' := s₁.setTop (mkF m 10 #[.val (.int p0), .val (.int p1), .unset, .unset, .unset] [(.int (p0 &&& (31 : Int32)))])) (fun _ ks => XS.iand X0.here hx rfl (hb hby at_9) rfl ks) ?_
    refine Dn.by (U' := s₁.setTop (mkF m 14 #[.val (.int p0), .val (.int p1), .unset, .unset, .unset] [(.int (p0 &&& (31 : Int32)))])) (fun _ ks => XS.goto X0.here hx rfl (pc0 := 10) (pc' := 14) rfl (hb hby at_10) (by decide) (by decide) ks) ?_
    exact J _
set_option maxRecDepth 65536 in
set_option maxHeartbeats 40000000 in
theorem comes_1 {Post : Tables → Env → Array Value → State → Outcome → State → Prop} (hpost : ∀ tb e args s v u, (limb_1_1.after args s (.returned v) u = true ∧ limb_1_2.after args s (.returned v) u = true ∧ True) → FrameEnd s (.returned v) u (Jvm.fieldLocs frame_1_writes args s ++ Jvm.arrayLocs frame_1_arrays args s ++ Jvm.staticLocs frame_1_statics s) 16 128 → Post tb e args s (.returned v) u) :
    ArmFor flags0 classFile x code maxLocals ret World_1 tables_1 room_1 Calls_1 rest_1 Pre_1 Post := by
  intro l hfl _ _ p e ha hc hk s m args below hf hA hF happ hP
  obtain ⟨hcalls, hrest, hpre⟩ := hP
  obtain ⟨-, -, -, hnamed, -, -, -, hat⟩ := (Spec.applies_iff hf).mp happ
  obtain ⟨hg, hn⟩ := and_e (Cond.before_iff.mp (show (Jvm.Cond.and given_1 narrow_1).before args s = true from hpre))
  obtain ⟨gg1, gg2⟩ := and_e hg
  obtain ⟨gg3, gg4⟩ := and_e gg2
  obtain ⟨w0, w1, rfl⟩ : ∃ w0 w1 : Value, args = #[w0, w1] := by
    have hs : args.size = 2 := by simpa [Cond.value, given_1] using gg1
    obtain ⟨L⟩ := args
    match L, hs with
    | [w0, w1], _ => exact ⟨w0, w1, rfl⟩
  have hw := fun d (hd : d ∈ tables_1) => atoms_spec (ws := Jvm.Cond.code x code maxLocals ret :: tables_1) hat d (List.mem_cons_of_mem _ hd)
  have hfit : Fit s := fun {y c} hc i hi => by
    obtain ⟨ha, rfl⟩ := Array.getElem?_eq_some_iff.mp hc
    have q := List.all_eq_true.mp ((Array.all_eq_true_iff_forall_mem.mp hF) _ (Array.getElem_mem ha)) i (List.mem_range.mpr hi)
    simpa [Array.getElem?_eq_getElem hi] using q
  obtain ⟨i0, ei0⟩ := is_v gg3
  obtain rfl : w0 = (.int i0) := Option.some.inj ei0
  obtain ⟨i1, ei1⟩ := is_v gg4
  obtain rfl : w1 = (.int i1) := Option.some.inj ei1
  obtain ⟨n, o, h1, h2, h3, _, L, rfl, ⟨rfl, N⟩, hq⟩ := rm0 l s _ hw tables_1 i0 i1  s.heap s.heap.size (Nat.le_refl _)  p e ha hc hk s m _ below hf ((Spec.applies_iff_loose hf).mp happ).1 ⟨rfl, State.Warmed39.refl s, rfl⟩ trivial
  refine ⟨n, _, h1, h2, h3, hpost _ _ _ _ _ _ ⟨Cond.after_iff.mpr rfl, Cond.after_iff.mpr (eq_i res_at (Term.int_eval (1)) rfl), trivial⟩ ⟨hq.1, hq.2.1, (hq.2.2.sift fun y hy => Or.inr (N y hy)).mono (by decide) (by decide)⟩⟩
theorem main_1_1 : Claimed_1_1 := comes_1 fun _ _ _ _ _ _ h hF => ⟨h.1, hF⟩
theorem main_1_2 : Claimed_1_2 := comes_1 fun _ _ _ _ _ _ h hF => ⟨h.2.1, hF⟩
end Jvm.Pilot.@@N@@
namespace Jvm.Pilot.@@N@@
open Jvm Jvm.ClassFile Sem Op Lib Jvm.Free Jvm.Stand Jvm.Pilot.@@N@@.Jvm.D
/-! MADE BY PROGRAM (witnessworld.py) out of the Statement's table words and the real class files: 9 classes; the members and pool entries that the words name. The judged class is class 1, her method 1. -/
namespace start1
open Jvm.ClassFile
def u (s : String) : CpInfo := .utf8 (stringToUtf16 s)
/-- a pool by its gaps: so many unusable entries, then the entry; so many at the end -/
def gap : Nat → List CpInfo → List CpInfo
  | 0, r => r
  | n + 1, r => .unusable :: gap n r
def poolList (es : List (Nat × CpInfo)) (last : Nat) : List CpInfo := es.foldr (fun e r => gap e.1 (e.2 :: r)) (gap last [])
def pool (es : List (Nat × CpInfo)) (last : Nat) : Array CpInfo := ⟨poolList es last⟩
def fileOf (pool : Array CpInfo) (this : Nat) (attrs : Array Attribute := #[]) (ms : Array MethodInfo := #[]) (fl : Nat := 33) (sup : Nat := 0) (ifs : Array Nat := #[]) (fds : Array FieldInfo := #[]) : ClassFile where
  minorVersion := 0
  majorVersion := 65
  constantPool := pool
  accessFlags := fl
  thisClass := this
  superClass := sup
  interfaces := ifs
  fields := fds
  methods := ms
  attributes := attrs
def plain (name : String) (sup : Option ClassId) : Class where
  name := name
  kind := .ordinary
  loader := none
  accessFlags := 33
  super := sup
  interfaces := #[]
  cf := none
  fields := #[]
  methods := #[]
  instanceTypes := #[]
  staticTypes := #[]
  resolved := #[]
  callSites := []
  init := .initialized
  statics := none
  mirror := none

def pool0 : Array CpInfo := pool [(5, u "<init>"), (0, u "()V"), (1, .class_ 10), (1, u "java/lang/Object")] 113

def k0m0 : Method := { name := "<init>", desc := "()V", sig := { parameters := [], returnType := none }, accessFlags := 1, code := none }
/-- java/lang/Object -/
def k0 : Class := { plain "java/lang/Object" none with
  accessFlags := 33
  interfaces := #[]
  cf := some (fileOf pool0 8 #[] #[{ accessFlags := 1, nameIndex := 5, descriptorIndex := 6, attributes := #[] }] 33 0 #[] #[])
  fields := #[]
  methods := #[k0m0]
  instanceTypes := #[]
  staticTypes := #[]
  resolved := Array.replicate 124 none
  statics := none }

def pool1 : Array CpInfo := pool [(2, .class_ 4), (1, u "java/lang/Object"), (0, u "<init>"), (0, u "()V"), (0, .methodref 8 9), (0, .class_ 10), (0, .nameAndType 11 12), (0, u "com/example/ferrywire/ferrywire/wire/CellKeys"), (0, u "valueLength"), (0, u "(I)I"), (0, .class_ 14), (0, u "com/example/ferrywire/ferrywire/wire/CellKeysValueLengthPinLaw"), (2, u "law"), (0, u "(II)Z")] 5

def k1m0 : Method := { name := "<init>", desc := "()V", sig := { parameters := [], returnType := none }, accessFlags := 2, code := none }
def k1c1 : Code := { maxStack := 4, maxLocals := 5, code := code, exceptionTable := #[], attributes := #[] }
def k1m1 : Method := { name := "law", desc := "(II)Z", sig := { parameters := [.int, .int], returnType := some .boolean }, accessFlags := 9, code := some k1c1 }
/-- com/example/ferrywire/ferrywire/wire/CellKeysValueLengthPinLaw -/
def k1 : Class := { plain "com/example/ferrywire/ferrywire/wire/CellKeysValueLengthPinLaw" (some 0) with
  accessFlags := 49
  interfaces := #[]
  cf := some (fileOf pool1 13 #[] #[{ accessFlags := 2, nameIndex := 5, descriptorIndex := 6, attributes := #[] }, { accessFlags := 9, nameIndex := 17, descriptorIndex := 18, attributes := #[] }] 49 2 #[] #[])
  fields := #[]
  methods := #[k1m0, k1m1]
  instanceTypes := #[]
  staticTypes := #[]
  resolved := Array.replicate 24 none
  statics := none }

def pool2 : Array CpInfo := pool [(2, .class_ 4), (1, u "java/lang/Object"), (0, u "<init>"), (0, u "()V"), (2, .class_ 10), (0, u "com/example/ferrywire/ferrywire/wire/CellKeys"), (4, u "ERROR"), (0, u "I"), (2, u "SIGNATURE"), (1, u "RECIPIENT_ID"), (1, u "SENDER_ID"), (1, u "RECIPIENT_KEY"), (1, u "RECIPIENT_DH_KEY"), (1, u "SENDER_MAY_SECURE"), (1, u "RELAY_DH_KEY"), (1, u "SENDER_KEY"), (1, u "MESSAGE_ID"), (1, u "TIMESTAMP"), (1, u "BODY"), (1, u "NAME"), (1, u "RELAY_ADDRESS"), (1, u "NUMBER"), (1, u "PREVIOUS_HASH"), (1, u "TEXT"), (1, u "MESSAGE_HASH"), (1, u "RATCHET_KEY"), (1, u "SALT"), (1, u "ID_LENGTH"), (1, u "MAX_BODY_LENGTH"), (1, u "HASH_LENGTH"), (1, u "SALT_LENGTH"), (0, u "ANY_LENGTH"), (3, u "valueLength"), (0, u "(I)I")] 3

def k2m0 : Method := { name := "<init>", desc := "()V", sig := { parameters := [], returnType := none }, accessFlags := 2, code := none }
def k2c1 : Code := { maxStack := 1, maxLocals := 2, code := prog_31_method_2_code, exceptionTable := #[], attributes := #[] }
def k2m1 : Method := { name := "valueLength", desc := "(I)I", sig := { parameters := [.int], returnType := some .int }, accessFlags := 9, code := some k2c1 }
/-- com/example/ferrywire/ferrywire/wire/CellKeys -/
def k2 : Class := { plain "com/example/ferrywire/ferrywire/wire/CellKeys" (some 0) with
  accessFlags := 49
  interfaces := #[]
  cf := some (fileOf pool2 9 #[] #[{ accessFlags := 2, nameIndex := 5, descriptorIndex := 6, attributes := #[] }, { accessFlags := 9, nameIndex := 68, descriptorIndex := 69, attributes := #[] }] 49 2 #[] #[{ accessFlags := 25, nameIndex := 15, descriptorIndex := 16, attributes := #[] }, { accessFlags := 25, nameIndex := 19, descriptorIndex := 16, attributes := #[] }, { accessFlags := 25, nameIndex := 21, descriptorIndex := 16, attributes := #[] }, { accessFlags := 25, nameIndex := 23, descriptorIndex := 16, attributes := #[] }, { accessFlags := 25, nameIndex := 25, descriptorIndex := 16, attributes := #[] }, { accessFlags := 25, nameIndex := 27, descriptorIndex := 16, attributes := #[] }, { accessFlags := 25, nameIndex := 29, descriptorIndex := 16, attributes := #[] }, { accessFlags := 25, nameIndex := 31, descriptorIndex := 16, attributes := #[] }, { accessFlags := 25, nameIndex := 33, descriptorIndex := 16, attributes := #[] }, { accessFlags := 25, nameIndex := 35, descriptorIndex := 16, attributes := #[] }, { accessFlags := 25, nameIndex := 37, descriptorIndex := 16, attributes := #[] }, { accessFlags := 25, nameIndex := 39, descriptorIndex := 16, attributes := #[] }, { accessFlags := 25, nameIndex := 41, descriptorIndex := 16, attributes := #[] }, { accessFlags := 25, nameIndex := 43, descriptorIndex := 16, attributes := #[] }, { accessFlags := 25, nameIndex := 45, descriptorIndex := 16, attributes := #[] }, { accessFlags := 25, nameIndex := 47, descriptorIndex := 16, attributes := #[] }, { accessFlags := 25, nameIndex := 49, descriptorIndex := 16, attributes := #[] }, { accessFlags := 25, nameIndex := 51, descriptorIndex := 16, attributes := #[] }, { accessFlags := 25, nameIndex := 53, descriptorIndex := 16, attributes := #[] }, { accessFlags := 25, nameIndex := 55, descriptorIndex := 16, attributes := #[] }, { accessFlags := 25, nameIndex := 57, descriptorIndex := 16, attributes := #[] }, { accessFlags := 25, nameIndex := 59, descriptorIndex := 16, attributes := #[] }, { accessFlags := 25, nameIndex := 61, descriptorIndex := 16, attributes := #[] }, { accessFlags := 25, nameIndex := 63, descriptorIndex := 16, attributes := #[] }, { accessFlags := 25, nameIndex := 64, descriptorIndex := 16, attributes := #[] }])
  fields := #[{ name := "ERROR", type := .int, accessFlags := 25, slot := 0, constantValue := 0 }, { name := "SIGNATURE", type := .int, accessFlags := 25, slot := 1, constantValue := 0 }, { name := "RECIPIENT_ID", type := .int, accessFlags := 25, slot := 2, constantValue := 0 }, { name := "SENDER_ID", type := .int, accessFlags := 25, slot := 3, constantValue := 0 }, { name := "RECIPIENT_KEY", type := .int, accessFlags := 25, slot := 4, constantValue := 0 }, { name := "RECIPIENT_DH_KEY", type := .int, accessFlags := 25, slot := 5, constantValue := 0 }, { name := "SENDER_MAY_SECURE", type := .int, accessFlags := 25, slot := 6, constantValue := 0 }, { name := "RELAY_DH_KEY", type := .int, accessFlags := 25, slot := 7, constantValue := 0 }, { name := "SENDER_KEY", type := .int, accessFlags := 25, slot := 8, constantValue := 0 }, { name := "MESSAGE_ID", type := .int, accessFlags := 25, slot := 9, constantValue := 0 }, { name := "TIMESTAMP", type := .int, accessFlags := 25, slot := 10, constantValue := 0 }, { name := "BODY", type := .int, accessFlags := 25, slot := 11, constantValue := 0 }, { name := "NAME", type := .int, accessFlags := 25, slot := 12, constantValue := 0 }, { name := "RELAY_ADDRESS", type := .int, accessFlags := 25, slot := 13, constantValue := 0 }, { name := "NUMBER", type := .int, accessFlags := 25, slot := 14, constantValue := 0 }, { name := "PREVIOUS_HASH", type := .int, accessFlags := 25, slot := 15, constantValue := 0 }, { name := "TEXT", type := .int, accessFlags := 25, slot := 16, constantValue := 0 }, { name := "MESSAGE_HASH", type := .int, accessFlags := 25, slot := 17, constantValue := 0 }, { name := "RATCHET_KEY", type := .int, accessFlags := 25, slot := 18, constantValue := 0 }, { name := "SALT", type := .int, accessFlags := 25, slot := 19, constantValue := 0 }, { name := "ID_LENGTH", type := .int, accessFlags := 25, slot := 20, constantValue := 0 }, { name := "MAX_BODY_LENGTH", type := .int, accessFlags := 25, slot := 21, constantValue := 0 }, { name := "HASH_LENGTH", type := .int, accessFlags := 25, slot := 22, constantValue := 0 }, { name := "SALT_LENGTH", type := .int, accessFlags := 25, slot := 23, constantValue := 0 }, { name := "ANY_LENGTH", type := .int, accessFlags := 25, slot := 24, constantValue := 0 }]
  methods := #[k2m0, k2m1]
  instanceTypes := #[]
  staticTypes := #[.int, .int, .int, .int, .int, .int, .int, .int, .int, .int, .int, .int, .int, .int, .int, .int, .int, .int, .int, .int, .int, .int, .int, .int, .int]
  resolved := Array.replicate 73 none
  statics := none }

def pool3 : Array CpInfo := pool [(1, u "java/lang/Cloneable"), (0, .class_ 1), (0, u "java/lang/Object"), (0, .class_ 3)] 3

/-- java/lang/Cloneable -/
def k3 : Class := { plain "java/lang/Cloneable" (some 0) with
  accessFlags := 1537
  interfaces := #[]
  cf := some (fileOf pool3 2 #[] #[] 1537 4 #[] #[])
  fields := #[]
  methods := #[]
  instanceTypes := #[]
  staticTypes := #[]
  resolved := Array.replicate 8 none
  statics := none }

def pool4 : Array CpInfo := pool [(1, u "java/io/Serializable"), (0, .class_ 1), (0, u "java/lang/Object"), (0, .class_ 3)] 3

/-- java/io/Serializable -/
def k4 : Class := { plain "java/io/Serializable" (some 0) with
  accessFlags := 1537
  interfaces := #[]
  cf := some (fileOf pool4 2 #[] #[] 1537 4 #[] #[])
  fields := #[]
  methods := #[]
  instanceTypes := #[]
  staticTypes := #[]
  resolved := Array.replicate 8 none
  statics := none }

/-- the primitive byte -/
def k5 : Class := { plain "byte" none with kind := .primitive 'B', accessFlags := 0x411 }
/-- [B -/
def k6 : Class := { plain "[B" (some 0) with kind := .array 5 .byte, interfaces := #[3, 4], accessFlags := 1041 }

/-- the primitive int -/
def k7 : Class := { plain "int" none with kind := .primitive 'I', accessFlags := 0x411 }
/-- [I -/
def k8 : Class := { plain "[I" (some 0) with kind := .array 7 .int, interfaces := #[3, 4], accessFlags := 1041 }

def heap : Heap := #[]
def classes : Array Class := #[k0, k1, k2, k3, k4, k5, k6, k7, k8]
def interned : List (Array UInt16 × Addr) := []
def slotsUsed : Nat := 0
def theMethod : MethodId := ⟨1, 1⟩
def args0 : Array Value := #[.int 5, .int 1]
def aboutOver (below : List Frame) : State where
  vm := { classes := classes, interned := interned.toArray }
  heap := heap
  slotsUsed := slotsUsed
  threads := #[{ frames := .invoking theMethod args0 :: below }]
def below0 : List Frame := [.native { method := ⟨0, 0⟩, args := #[] }]
def about1 : State := aboutOver below0
def p0 : Program := .bare "" "" ""
def e0 : Env := launch0.env 0 0 0
theorem w_frames : about1.frames = Frame.invoking theMethod args0 :: below0 := rfl
set_option maxRecDepth 65536 in
theorem w_args : argsFit about1.vm theMethod args0 = true := by decide +kernel
set_option maxRecDepth 65536 in
theorem w_heap : heapFits about1 = true := by decide +kernel
set_option maxRecDepth 65536 in
theorem w_runnable : about1.curStatus? = some .runnable := by decide +kernel
set_option maxRecDepth 65536 in
theorem w_alone : about1.alone = true := by decide +kernel
set_option maxRecDepth 65536 in
theorem w_named : about1.methodNamed? x = some theMethod := by decide +kernel
set_option maxRecDepth 65536 in
theorem w_hears : about1.hears theMethod below0 = true := by decide +kernel
set_option maxRecDepth 65536 in
theorem w_ripe : about1.ripe theMethod args0 below0 = true := by decide +kernel
theorem w_running : about1.status = .running := rfl
set_option maxRecDepth 65536 in
theorem w_room : about1.hasRoom e0.platform room_1 = true :=
  launch0.hasRoom_least _ room_1 (by decide +kernel) (by decide +kernel) (by decide +kernel) (by decide +kernel) (by decide +kernel) (by decide +kernel)
theorem allAtoms_all (ts : List Jvm.Cond) (a : Array Jvm.Value) (st : Jvm.State) : (allAtoms ts).before a st = ts.all (fun c => c.before a st) := by
  induction ts with
  | nil => rfl
  | cons c t ih =>
    show (Jvm.Cond.and c (allAtoms t)).before a st = _
    rw [Jvm.Cond.before_and, ih, List.all_cons]
def words1 : List Jvm.Cond := Jvm.Cond.code x code maxLocals ret :: tables_1
/-- a 'code' word, met by the world's own term for the bytes: nothing is compared byte by byte -/
theorem code_word {y : MethodName} {bytes : ByteArray} {mx : Nat} {rt : Option FieldType} {a : Array Value} {s : State} {m : MethodId} {meth : Method} {c : Code} (h1 : s.methodNamed? y = some m) (h2 : s.vm.method? m = some meth) (h3 : meth.code = some c) (h4 : c.code = bytes)
    (h5 : (c.maxLocals == mx && c.exceptionTable.isEmpty && decide (c.maxStack ≤ mostOperands) && decide (meth.sig.returnType = rt) && !meth.locks && decide (parseMethodDescriptor y.desc = some meth.sig)) = true) : (Jvm.Cond.code y bytes mx rt).before a s = true := by
  simp only [Bool.and_eq_true, beq_iff_eq, Bool.not_eq_true', decide_eq_true_eq] at h5
  obtain ⟨⟨⟨⟨⟨g1, g2⟩, g3⟩, g4⟩, g5⟩, g6⟩ := h5
  simp [Cond.before, Cond.holds, Cond.value, h1, h2, h3, h4, g1, g2, g3, g4, g5, g6]
def isCode : Jvm.Cond → Bool
  | .code _ _ _ _ => true
  | _ => false
theorem all_split {L : List Jvm.Cond} {P : Jvm.Cond → Bool} (h1 : L.all (fun c => isCode c || P c) = true) (h2 : ∀ c ∈ L.filter isCode, P c = true) : L.all P = true := by
  refine List.all_eq_true.mpr fun c hc => ?_
  have h := List.all_eq_true.mp h1 c hc
  rcases Bool.eq_false_or_eq_true (isCode c) with hi | hi
  · exact h2 c (List.mem_filter.mpr ⟨hc, hi⟩)
  · simpa [hi] using h
set_option maxRecDepth 65536 in
theorem w_c0 : (Jvm.Cond.code x code maxLocals ret).before args0 about1 = true := code_word (m := ⟨1, 1⟩) (meth := k1m1) (c := k1c1) (by decide +kernel) rfl rfl rfl (by decide +kernel)
set_option maxRecDepth 65536 in
theorem w_c1 : (Jvm.Cond.code ({ cls := "com/example/ferrywire/ferrywire/wire/CellKeys", name := "valueLength", desc := "(I)I" } : Jvm.MethodName) prog_31_method_2_code (2 : Nat) (Option.some Jvm.ClassFile.FieldType.int)).before args0 about1 = true := code_word (m := ⟨2, 1⟩) (meth := k2m1) (c := k2c1) (by decide +kernel) rfl rfl rfl (by decide +kernel)
def codes1 : List Jvm.Cond := [Jvm.Cond.code x code maxLocals ret, Jvm.Cond.code ({ cls := "com/example/ferrywire/ferrywire/wire/CellKeys", name := "valueLength", desc := "(I)I" } : Jvm.MethodName) prog_31_method_2_code (2 : Nat) (Option.some Jvm.ClassFile.FieldType.int)]
set_option maxRecDepth 65536 in
theorem codes_eq : words1.filter isCode = codes1 := rfl
theorem w_codes : ∀ c ∈ words1.filter isCode, c.before args0 about1 = true := by
  rw [codes_eq]
  intro c hc
  simp only [codes1, List.mem_cons, List.not_mem_nil, or_false] at hc
  rcases hc with rfl | rfl
  · exact w_c0
  · exact w_c1
set_option maxRecDepth 65536 in
theorem w_t1 : words1.all (fun c => isCode c || c.before args0 about1) = true := by decide +kernel
theorem w_tables : (allAtoms (Jvm.Cond.code x code maxLocals ret :: tables_1)).before args0 about1 = true := by
  rw [allAtoms_all]
  show words1.all (fun c => c.before args0 about1) = true
  refine all_split ?_ w_codes
  rw [w_t1]
set_option maxRecDepth 65536 in
theorem w_case : (Jvm.Cond.and given_1 narrow_1).before args0 about1 = true := by decide +kernel
theorem w_applies : (headSpec (Jvm.Cond.code x code maxLocals ret :: tables_1) room_1).applies x e0.platform about1 = true :=
  (Spec.applies_iff w_frames).mpr ⟨w_running, w_runnable, w_alone, w_named, w_hears, w_ripe, w_room, w_tables⟩
theorem atStart : AtStart classFile x code maxLocals ret World_1 tables_1 room_1 Calls_1 rest_1 Pre_1 launch0 p0 e0 about1 theMethod args0 below0 :=
  ⟨lists_1, trivial, launch0.admits_env _ _ _, launch0.least_env, fairChoices_fair.cas, fairChoices_fair.clock, w_frames, w_args, w_heap, w_applies, trivial, trivial, w_case⟩
end start1
theorem witness_1 : WitnessClaimed_1 := ⟨start1.p0, start1.e0, start1.about1, start1.theMethod, start1.args0, start1.below0, start1.atStart⟩
end Jvm.Pilot.@@N@@
