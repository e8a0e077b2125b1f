import JvmDerived
import JvmDerived.Pilot.@@N@@Statement
import JvmDerived.Pilot.@@N@@Code
set_option linter.unusedVariables false
set_option linter.unusedSimpArgs false
namespace Jvm.Pilot.@@N@@
open Jvm Jvm.ClassFile Sem Op Lib Jvm.Free Jvm.Stand Jvm.LawKit Jvm.RoadKit Bundle Jvm.Pilot.@@N@@.Jvm.D
/-- from the state U the run comes to the method's end, where Q holds of what it returns, of the heap and of the places written -/
def Dn (p : Program) (e : Env) (below : List Frame) (s : State) (k n : Nat) (Q : Option Value → Heap → List Loc → Prop) (U : State) : Prop :=
  ∃ t o, Steps p.tables e below U t ∧ t.status = .running ∧ Ended t below o ∧ ∃ v L, o = .returned v ∧ Q v t.heap L ∧ FrameEnd s o t L k n
theorem Dn.by {p : Program} {e : Env} {below : List Frame} {s : State} {k n : Nat} {Q : Option Value → Heap → List Loc → Prop} {U U' : State} (st : ∀ t, Steps p.tables e below U' t → Steps p.tables e below U t) (h : Dn p e below s k n Q U') : Dn p e below s k n Q U := by
  obtain ⟨t, o, h1, h2⟩ := h
  exact ⟨t, o, st t h1, h2⟩
theorem Dn.out {p : Program} {l : Launch} {e : Env} {R : Room} {s : State} {m : MethodId} {args : Array Value} {below : List Frame} {meth : Method} {c : Code} {T : State} {locs : List Loc} {cells slots k n : Nat} {Q : Option Value → Heap → List Loc → Prop} {U : State} (X : Stand p l e R s m args below meth c T locs cells slots) {v : Option Value} (hv : meth.sig.returnType = none → v = none) (hlk : meth.locks = false)
    (st : ∀ fs, (∀ (f : JFrame) (acts : List Action), f.method = m → f.locked = none → f.entered = [] → (doReturn e (T.setTop f) acts v).1 = T.setFrames fs) → Steps p.tables e below U (T.setFrames fs)) (hk : cells ≤ k) (hn : slots ≤ n) (hQ : Q v T.heap locs) : Dn p e below s k n Q U := by
  obtain ⟨fs, hr, hrun, hended, hW, hsame⟩ := X.leave (v := v) hv hlk
  exact ⟨_, _, st fs hr, hrun, hended, v, locs, rfl, hQ, ⟨_, rfl⟩, hW, hsame.mono hk hn⟩
theorem pn0 : plainName "com/example/nadir/nadir/XxHash64" = true := by first | (simp [plainName, overriddenIn]; done) | decide +kernel
theorem pn1 : plainName "com/example/nadir/nadir/XxHash64AccumulatorPinLaw" = true := by first | (simp [plainName, overriddenIn]; done) | decide +kernel
theorem pd0 : parseMethodDescriptor "(JI)J" = some ⟨[.long, .int], some .long⟩ := by decide +kernel
theorem d1_0 : decode prog_34_method_5_code 0 = .ok (.iload_n 2, 1) := by decide +kernel
theorem d1_1 : decode prog_34_method_5_code 1 = .ok (.tableswitch 51 0 2 #[27, 39, 47], 27) := by decide +kernel
theorem d1_28 : decode prog_34_method_5_code 28 = .ok (.lload_n 0, 1) := by decide +kernel
theorem d1_29 : decode prog_34_method_5_code 29 = .ok (.ldc2_w 60, 3) := by decide +kernel
theorem d1_32 : decode prog_34_method_5_code 32 = .ok (.ladd, 1) := by decide +kernel
theorem d1_33 : decode prog_34_method_5_code 33 = .ok (.ldc2_w 62, 3) := by decide +kernel
theorem d1_36 : decode prog_34_method_5_code 36 = .ok (.ladd, 1) := by decide +kernel
theorem d1_37 : decode prog_34_method_5_code 37 = .ok (.goto 20, 3) := by decide +kernel
theorem d1_40 : decode prog_34_method_5_code 40 = .ok (.lload_n 0, 1) := by decide +kernel
theorem d1_41 : decode prog_34_method_5_code 41 = .ok (.ldc2_w 62, 3) := by decide +kernel
theorem d1_44 : decode prog_34_method_5_code 44 = .ok (.ladd, 1) := by decide +kernel
theorem d1_45 : decode prog_34_method_5_code 45 = .ok (.goto 12, 3) := by decide +kernel
theorem d1_48 : decode prog_34_method_5_code 48 = .ok (.lload_n 0, 1) := by decide +kernel
theorem d1_49 : decode prog_34_method_5_code 49 = .ok (.goto 8, 3) := by decide +kernel
theorem d1_52 : decode prog_34_method_5_code 52 = .ok (.lload_n 0, 1) := by decide +kernel
theorem d1_53 : decode prog_34_method_5_code 53 = .ok (.ldc2_w 60, 3) := by decide +kernel
theorem d1_56 : decode prog_34_method_5_code 56 = .ok (.lsub, 1) := by decide +kernel
theorem d1_57 : decode prog_34_method_5_code 57 = .ok (.lreturn, 1) := by decide +kernel
def accu (q0 : Int64) (p1 : Int32) : Int64 := (if p1 = (0 : Int32) then ((q0 + (-7046029288634856825 : Int64)) + (-4417276706812531889 : Int64)) else (if p1 = (1 : Int32) then (q0 + (-4417276706812531889 : Int64)) else (if p1 = (2 : Int32) then q0 else (q0 - (-7046029288634856825 : Int64)))))
abbrev Rm1 : Room := { frames := 0, cells := 0, slots := 0, locals := 0 }
theorem ef_1 (m : MethodId) (q0 : Int64) (p1 : Int32) : entryFrame m #[(.long q0), (.int p1)] 3 = mkF m 0 #[.val (.long q0), .second, .val (.int p1)] [] := by first | (simp [entryFrame, mkF, argsToLocals, Value.category]; done) | rfl
def Q1 (Z : State) (q0 : Int64) (p1 : Int32) (h0 : Heap) (n0 : Nat) (v : Option Value) (h : Heap) (L : List Loc) : Prop := v = some (.long (accu q0 p1)) ∧ Fr n0 L ∧ h = h0
set_option maxRecDepth 65536 in
set_option maxHeartbeats 40000000 in
theorem rm1 (l : Launch) (Z : State) (a0 : Array Value) (hw : ∀ d ∈ tables_1, d.before a0 Z = true) (ws : List Jvm.Cond) (q0 : Int64) (p1 : Int32) (h0 : Heap) (n0 : Nat) (Z0 : n0 ≤ h0.size)  :
    MetFree l (⟨"com/example/nadir/nadir/XxHash64", "accumulator", "(JI)J"⟩ : MethodName) (head1 (Jvm.Cond.code (⟨"com/example/nadir/nadir/XxHash64", "accumulator", "(JI)J"⟩ : MethodName) prog_34_method_5_code 3 (some .long) :: ws) Rm1) (fun a U => a = #[(.long q0), (.int p1)] ∧ Z.Warmed39 U.vm ∧ U.heap = h0) (fun _ _ _ _ _ => True) (fun _ U o U' => ∃ v L, o = .returned v ∧ Q1 Z q0 p1 h0 n0 v U'.heap L ∧ FrameEnd U o U' L Rm1.cells Rm1.slots) := by
  refine MetFree.of_bodySF (plainFor_of_name pn0) hisR ?_
  intro p e s m args below meth c s₁ Bd hml0 hP hK
  obtain ⟨rfl, hZ, hh⟩ := hP
  have hx := Bd.exec
  have hby := Bd.bytes
  have hml : c.maxLocals = 3 := hml0
  have hown : s.vm.findClass "com/example/nadir/nadir/XxHash64" = some m.cls := findClass_of_methodNamed Bd.named
  have hnm := (name_of_methodNamed Bd.named Bd.method).1
  have X0 : Stand p l e Rm1 s m #[(.long q0), (.int p1)] below meth c s₁ [] 0 0 := Stand.of_body Bd
  have e0 : s₁.heap = h0 := by rw [← hh, Bd.state]; rfl
  have N0 := Fr.nil n0
  show Dn p e below s Rm1.cells Rm1.slots (Q1 Z q0 p1 h0 n0) (s₁.setTop (entryFrame m #[(.long q0), (.int p1)] 3))
  rw [ef_1]
  refine Dn.by (U' := s₁.setTop (mkF m 1 #[.val (.long q0), .second, .val (.int p1)] [(.int p1)])) (fun _ k => XS.iloadN X0.here hx rfl (hb hby d1_0) rfl k) ?_
  by_cases w1_1 : p1 = (0 : Int32)
  ·
    refine Dn.by (U' := s₁.setTop (mkF m 28 #[.val (.long q0), .second, .val (.int p1)] [])) (fun _ k => XS.tswIn X0.here hx rfl (pc0 := 1) (pc' := 28) (o := 27) rfl (hb hby d1_1) rfl (by rw [w1_1]; decide) (by rw [w1_1]; rfl) (by decide) (by decide) k) ?_
    refine Dn.by (U' := s₁.setTop (mkF m 29 #[.val (.long q0), .second, .val (.int p1)] [(.long q0)])) (fun _ k => XS.lloadN X0.here hx rfl (hb hby d1_28) rfl k) ?_
    refine Dn.by (U' := s₁.setTop (mkF m 32 #[.val (.long q0), .second, .val (.int p1)] [(.long (-7046029288634856825 : Int64)), (.long q0)])) (X0.ldc2Long hx hown (mvT hZ (hw _ (List.mem_of_getElem? (i := 4) rfl))) (g := (mkF m 29 #[.val (.long q0), .second, .val (.int p1)] [(.long q0)])) rfl (hb hby d1_29)) ?_
    refine Dn.by (U' := s₁.setTop (mkF m 33 #[.val (.long q0), .second, .val (.int p1)] [(.long (q0 + (-7046029288634856825 : Int64)))])) (fun _ k => XS.ladd X0.here hx rfl (hb hby d1_32) rfl k) ?_
    refine Dn.by (U' := s₁.setTop (mkF m 36 #[.val (.long q0), .second, .val (.int p1)] [(.long (-4417276706812531889 : Int64)), (.long (q0 + (-7046029288634856825 : Int64)))])) (X0.ldc2Long hx hown (mvT hZ (hw _ (List.mem_of_getElem? (i := 5) rfl))) (g := (mkF m 33 #[.val (.long q0), .second, .val (.int p1)] [(.long (q0 + (-7046029288634856825 : Int64)))])) rfl (hb hby d1_33)) ?_
    refine Dn.by (U' := s₁.setTop (mkF m 37 #[.val (.long q0), .second, .val (.int p1)] [(.long ((q0 + (-7046029288634856825 : Int64)) + (-4417276706812531889 : Int64)))])) (fun _ k => XS.ladd X0.here hx rfl (hb hby d1_36) rfl k) ?_
    refine Dn.by (U' := s₁.setTop (mkF m 57 #[.val (.long q0), .second, .val (.int p1)] [(.long ((q0 + (-7046029288634856825 : Int64)) + (-4417276706812531889 : Int64)))])) (fun _ k => XS.goto X0.here hx rfl (pc0 := 37) (pc' := 57) rfl (hb hby d1_37) (by decide) (by decide) k) ?_
    refine Dn.out X0 (v := (some (.long ((q0 + (-7046029288634856825 : Int64)) + (-4417276706812531889 : Int64))))) (fun h => by rw [Bd.returns] at h; cases h) (BodyLoose.notSynchronized Bd) (fun _ hr => retOut X0 hx Bd.returns rfl (Or.inr (Or.inl ⟨rfl, rfl, _, rfl⟩)) (hb hby d1_57) hr) (by decide) (by decide) ?_
    rw [e0]
    exact ⟨by simp only [accu, if_pos w1_1], N0, rfl⟩
  by_cases w1_2 : p1 = (1 : Int32)
  ·
    refine Dn.by (U' := s₁.setTop (mkF m 40 #[.val (.long q0), .second, .val (.int p1)] [])) (fun _ k => XS.tswIn X0.here hx rfl (pc0 := 1) (pc' := 40) (o := 39) rfl (hb hby d1_1) rfl (by rw [w1_2]; decide) (by rw [w1_2]; rfl) (by decide) (by decide) k) ?_
    refine Dn.by (U' := s₁.setTop (mkF m 41 #[.val (.long q0), .second, .val (.int p1)] [(.long q0)])) (fun _ k => XS.lloadN X0.here hx rfl (hb hby d1_40) rfl k) ?_
    refine Dn.by (U' := s₁.setTop (mkF m 44 #[.val (.long q0), .second, .val (.int p1)] [(.long (-4417276706812531889 : Int64)), (.long q0)])) (X0.ldc2Long hx hown (mvT hZ (hw _ (List.mem_of_getElem? (i := 5) rfl))) (g := (mkF m 41 #[.val (.long q0), .second, .val (.int p1)] [(.long q0)])) rfl (hb hby d1_41)) ?_
    refine Dn.by (U' := s₁.setTop (mkF m 45 #[.val (.long q0), .second, .val (.int p1)] [(.long (q0 + (-4417276706812531889 : Int64)))])) (fun _ k => XS.ladd X0.here hx rfl (hb hby d1_44) rfl k) ?_
    refine Dn.by (U' := s₁.setTop (mkF m 57 #[.val (.long q0), .second, .val (.int p1)] [(.long (q0 + (-4417276706812531889 : Int64)))])) (fun _ k => XS.goto X0.here hx rfl (pc0 := 45) (pc' := 57) rfl (hb hby d1_45) (by decide) (by decide) k) ?_
    refine Dn.out X0 (v := (some (.long (q0 + (-4417276706812531889 : Int64))))) (fun h => by rw [Bd.returns] at h; cases h) (BodyLoose.notSynchronized Bd) (fun _ hr => retOut X0 hx Bd.returns rfl (Or.inr (Or.inl ⟨rfl, rfl, _, rfl⟩)) (hb hby d1_57) hr) (by decide) (by decide) ?_
    rw [e0]
    exact ⟨by simp only [accu, if_neg w1_1, if_pos w1_2], N0, rfl⟩
  by_cases w1_3 : p1 = (2 : Int32)
  ·
    refine Dn.by (U' := s₁.setTop (mkF m 48 #[.val (.long q0), .second, .val (.int p1)] [])) (fun _ k => XS.tswIn X0.here hx rfl (pc0 := 1) (pc' := 48) (o := 47) rfl (hb hby d1_1) rfl (by rw [w1_3]; decide) (by rw [w1_3]; rfl) (by decide) (by decide) k) ?_
    refine Dn.by (U' := s₁.setTop (mkF m 49 #[.val (.long q0), .second, .val (.int p1)] [(.long q0)])) (fun _ k => XS.lloadN X0.here hx rfl (hb hby d1_48) rfl k) ?_
    refine Dn.by (U' := s₁.setTop (mkF m 57 #[.val (.long q0), .second, .val (.int p1)] [(.long q0)])) (fun _ k => XS.goto X0.here hx rfl (pc0 := 49) (pc' := 57) rfl (hb hby d1_49) (by decide) (by decide) k) ?_
    refine Dn.out X0 (v := (some (.long q0))) (fun h => by rw [Bd.returns] at h; cases h) (BodyLoose.notSynchronized Bd) (fun _ hr => retOut X0 hx Bd.returns rfl (Or.inr (Or.inl ⟨rfl, rfl, _, rfl⟩)) (hb hby d1_57) hr) (by decide) (by decide) ?_
    rw [e0]
    exact ⟨by simp only [accu, if_neg w1_1, if_neg w1_2, if_pos w1_3], N0, rfl⟩
  have w1_1' : p1.toInt ≠ 0 := fun q => w1_1 (Int32.toInt_inj.mp (q.trans (by decide)))
  have w1_2' : p1.toInt ≠ 1 := fun q => w1_2 (Int32.toInt_inj.mp (q.trans (by decide)))
  have w1_3' : p1.toInt ≠ 2 := fun q => w1_3 (Int32.toInt_inj.mp (q.trans (by decide)))
  refine Dn.by (U' := s₁.setTop (mkF m 52 #[.val (.long q0), .second, .val (.int p1)] [])) (fun _ k => XS.tswOut X0.here hx rfl (pc0 := 1) (pc' := 52) rfl (hb hby d1_1) rfl (by omega) (by decide) (by decide) k) ?_
  refine Dn.by (U' := s₁.setTop (mkF m 53 #[.val (.long q0), .second, .val (.int p1)] [(.long q0)])) (fun _ k => XS.lloadN X0.here hx rfl (hb hby d1_52) rfl k) ?_
  refine Dn.by (U' := s₁.setTop (mkF m 56 #[.val (.long q0), .second, .val (.int p1)] [(.long (-7046029288634856825 : Int64)), (.long q0)])) (X0.ldc2Long hx hown (mvT hZ (hw _ (List.mem_of_getElem? (i := 4) rfl))) (g := (mkF m 53 #[.val (.long q0), .second, .val (.int p1)] [(.long q0)])) rfl (hb hby d1_53)) ?_
  refine Dn.by (U' := s₁.setTop (mkF m 57 #[.val (.long q0), .second, .val (.int p1)] [(.long (q0 - (-7046029288634856825 : Int64)))])) (fun _ k => XS.lsub X0.here hx rfl (hb hby d1_56) rfl k) ?_
  refine Dn.out X0 (v := (some (.long (q0 - (-7046029288634856825 : Int64))))) (fun h => by rw [Bd.returns] at h; cases h) (BodyLoose.notSynchronized Bd) (fun _ hr => retOut X0 hx Bd.returns rfl (Or.inr (Or.inl ⟨rfl, rfl, _, rfl⟩)) (hb hby d1_57) hr) (by decide) (by decide) ?_
  rw [e0]
  exact ⟨by simp only [accu, if_neg w1_1, if_neg w1_2, if_neg w1_3], N0, rfl⟩
theorem own_0 (q : Int64) : accu q (0 : Int32) = q + (6983438078262162902 : Int64) := by
  show (q + (-7046029288634856825 : Int64)) + (-4417276706812531889 : Int64) = _
  rw [Int64.add_assoc]; rfl
theorem own_1 (q : Int64) : accu q (1 : Int32) = q + (-4417276706812531889 : Int64) := rfl
theorem own_2 (q : Int64) : accu q (2 : Int32) = q := rfl
theorem own_3 (q : Int64) : accu q (3 : Int32) = q + (7046029288634856825 : Int64) := by
  show q - (-7046029288634856825 : Int64) = _
  rw [Int64.sub_eq_add_neg]; rfl
theorem ef_0 (m : MethodId) (q0 : Int64) : entryFrame m #[(.long q0)] maxLocals = mkF m 0 #[.val (.long q0), .second, .unset, .unset, .unset, .unset, .unset, .unset, .unset, .unset, .unset, .unset, .unset, .unset] [] := by first | (simp [entryFrame, mkF, argsToLocals, Value.category, maxLocals]; done) | rfl
def Q0 (Z : State) (q0 : Int64) (h0 : Heap) (n0 : Nat) (v : Option Value) (h : Heap) (L : List Loc) : Prop := v = some (.int 1) ∧ Fr n0 L
set_option maxRecDepth 65536 in
set_option maxHeartbeats 40000000 in
theorem rm0 (l : Launch) (Z : State) (a0 : Array Value) (hw : ∀ d ∈ tables_1, d.before a0 Z = true) (ws : List Jvm.Cond) (q0 : Int64) (h0 : Heap) (n0 : Nat) (Z0 : n0 ≤ h0.size)  :
    MetFree l x (head1 (Jvm.Cond.code x code maxLocals ret :: ws) room_1) (fun a U => a = #[(.long q0)] ∧ Z.Warmed39 U.vm ∧ U.heap = h0) (fun _ _ _ _ _ => True) (fun _ U o U' => ∃ v L, o = .returned v ∧ Q0 Z q0 h0 n0 v U'.heap L ∧ FrameEnd U o U' L 0 0) := by
  refine MetFree.of_bodySF (plainFor_of_name pn1) hisR ?_
  intro p e s m args below meth c s₁ Bd hml0 hP hK
  obtain ⟨rfl, hZ, hh⟩ := hP
  have hx := Bd.exec
  have hby := Bd.bytes
  have hml : c.maxLocals = 14 := hml0
  have hown : s.vm.findClass "com/example/nadir/nadir/XxHash64AccumulatorPinLaw" = some m.cls := findClass_of_methodNamed Bd.named
  have hnm := (name_of_methodNamed Bd.named Bd.method).1
  have X0 : Stand p l e room_1 s m #[(.long q0)] below meth c s₁ [] 0 0 := Stand.of_body Bd
  have e0 : s₁.heap = h0 := by rw [← hh, Bd.state]; rfl
  have N0 := Fr.nil n0
  show Dn p e below s 0 0 (Q0 Z q0 h0 n0) (s₁.setTop (entryFrame m #[(.long q0)] maxLocals))
  rw [ef_0]
  refine Dn.by (U' := s₁.setTop (mkF m 1 #[.val (.long q0), .second, .unset, .unset, .unset, .unset, .unset, .unset, .unset, .unset, .unset, .unset, .unset, .unset] [(.long q0)])) (fun _ k => XS.lloadN X0.here hx rfl (hb hby at_0) rfl k) ?_
  refine Dn.by (U' := s₁.setTop (mkF m 2 #[.val (.long q0), .second, .unset, .unset, .unset, .unset, .unset, .unset, .unset, .unset, .unset, .unset, .unset, .unset] [(.int (0 : Int32)), (.long q0)])) (fun _ k => XS.iconst X0.here hx rfl (hb hby at_1)  k) ?_
  obtain ⟨_, _, ⟨T1, L1, k1, n1⟩, -, X1, ⟨Lc1, hQ1, l1, y1, z1⟩, st1⟩ := Jvm.LawKit.callS X0 hx (y := (⟨"com/example/nadir/nadir/XxHash64", "accumulator", "(JI)J"⟩ : MethodName)) hown (mvT hZ (hw _ (List.mem_of_getElem? (i := 0) rfl))) (mvT hZ (hw _ (List.mem_of_getElem? (i := 1) rfl))) (mvT hZ (hw _ (List.mem_of_getElem? (i := 2) rfl))) (mvT hZ (hw _ (List.mem_of_getElem? (i := 3) rfl))) (by decide) (backOf (W := 0) (rm1 l Z a0 hw [] q0 (0 : Int32)  h0 n0 Z0 ) hZ (hw _ (List.mem_of_getElem? (i := 3) rfl)) (hw _ (List.mem_of_getElem? (i := 2) rfl)) (by decide) (by decide)) (g := (mkF m 2 #[.val (.long q0), .second, .unset, .unset, .unset, .unset, .unset, .unset, .unset, .unset, .unset, .unset, .unset, .unset] [(.int (0 : Int32)), (.long q0)])) rfl (by rw [hml]; rfl) (argsL := [(.long q0), (.int (0 : Int32))]) (rest := []) (lenOf pd0 rfl) rfl (by show 2 * 0 + _ ≤ _; exact Nat.le_of_eq rfl) (hb hby at_2) (fun _ _ => ⟨rfl, e0, (by decide : 0 + 0 ≤ _), (by decide : 0 + 0 ≤ _)⟩)
  dsimp only [Pt.U, Pt.locs, Pt.cells, Pt.slots] at X1 l1 y1 z1 st1 hQ1
  subst l1 y1 z1
  obtain ⟨rfl, N1q, e1⟩ := hQ1
  have N1 := Fr.app N0 N1q
  refine Dn.by (U' := T1.setTop (mkF m 5 #[.val (.long q0), .second, .unset, .unset, .unset, .unset, .unset, .unset, .unset, .unset, .unset, .unset, .unset, .unset] [(.long (accu q0 (0 : Int32)))])) st1 ?_
  rw [show (accu q0 (0 : Int32)) = (q0 + (6983438078262162902 : Int64)) from own_0 q0]
  refine Dn.by (U' := T1.setTop (mkF m 6 #[.val (.long q0), .second, .val (.long (q0 + (6983438078262162902 : Int64))), .second, .unset, .unset, .unset, .unset, .unset, .unset, .unset, .unset, .unset, .unset] [])) (fun _ k => XS.lstoreN X1.here hx rfl (hb hby at_5) rfl (l' := #[.val (.long q0), .second, .val (.long (q0 + (6983438078262162902 : Int64))), .second, .unset, .unset, .unset, .unset, .unset, .unset, .unset, .unset, .unset, .unset]) rfl k) ?_
  refine Dn.by (U' := T1.setTop (mkF m 7 #[.val (.long q0), .second, .val (.long (q0 + (6983438078262162902 : Int64))), .second, .unset, .unset, .unset, .unset, .unset, .unset, .unset, .unset, .unset, .unset] [(.long q0)])) (fun _ k => XS.lloadN X1.here hx rfl (hb hby at_6) rfl k) ?_
  refine Dn.by (U' := T1.setTop (mkF m 8 #[.val (.long q0), .second, .val (.long (q0 + (6983438078262162902 : Int64))), .second, .unset, .unset, .unset, .unset, .unset, .unset, .unset, .unset, .unset, .unset] [(.int (1 : Int32)), (.long q0)])) (fun _ k => XS.iconst X1.here hx rfl (hb hby at_7)  k) ?_
  obtain ⟨_, _, ⟨T2, L2, k2, n2⟩, -, X2, ⟨Lc2, hQ2, l2, y2, z2⟩, st2⟩ := Jvm.LawKit.callS X1 hx (y := (⟨"com/example/nadir/nadir/XxHash64", "accumulator", "(JI)J"⟩ : MethodName)) hown (mvT hZ (hw _ (List.mem_of_getElem? (i := 0) rfl))) (mvT hZ (hw _ (List.mem_of_getElem? (i := 1) rfl))) (mvT hZ (hw _ (List.mem_of_getElem? (i := 2) rfl))) (mvT hZ (hw _ (List.mem_of_getElem? (i := 3) rfl))) (by decide) (backOf (W := 0) (rm1 l Z a0 hw [] q0 (1 : Int32)  h0 n0 Z0 ) hZ (hw _ (List.mem_of_getElem? (i := 3) rfl)) (hw _ (List.mem_of_getElem? (i := 2) rfl)) (by decide) (by decide)) (g := (mkF m 8 #[.val (.long q0), .second, .val (.long (q0 + (6983438078262162902 : Int64))), .second, .unset, .unset, .unset, .unset, .unset, .unset, .unset, .unset, .unset, .unset] [(.int (1 : Int32)), (.long q0)])) rfl (by rw [hml]; rfl) (argsL := [(.long q0), (.int (1 : Int32))]) (rest := []) (lenOf pd0 rfl) rfl (by show 2 * 0 + _ ≤ _; exact Nat.le_of_eq rfl) (hb hby at_8) (fun _ _ => ⟨rfl, e1, (by decide : 0 + 0 ≤ _), (by decide : 0 + 0 ≤ _)⟩)
  dsimp only [Pt.U, Pt.locs, Pt.cells, Pt.slots] at X2 l2 y2 z2 st2 hQ2
  subst l2 y2 z2
  obtain ⟨rfl, N2q, e2⟩ := hQ2
  have N2 := Fr.app N1 N2q
  refine Dn.by (U' := T2.setTop (mkF m 11 #[.val (.long q0), .second, .val (.long (q0 + (6983438078262162902 : Int64))), .second, .unset, .unset, .unset, .unset, .unset, .unset, .unset, .unset, .unset, .unset] [(.long (accu q0 (1 : Int32)))])) st2 ?_
  rw [show (accu q0 (1 : Int32)) = (q0 + (-4417276706812531889 : Int64)) from own_1 q0]
  refine Dn.by (U' := T2.setTop (mkF m 13 #[.val (.long q0), .second, .val (.long (q0 + (6983438078262162902 : Int64))), .second, .val (.long (q0 + (-4417276706812531889 : Int64))), .second, .unset, .unset, .unset, .unset, .unset, .unset, .unset, .unset] [])) (fun _ k => XS.lstore X2.here hx rfl (hb hby at_11) rfl (l' := #[.val (.long q0), .second, .val (.long (q0 + (6983438078262162902 : Int64))), .second, .val (.long (q0 + (-4417276706812531889 : Int64))), .second, .unset, .unset, .unset, .unset, .unset, .unset, .unset, .unset]) rfl k) ?_
  refine Dn.by (U' := T2.setTop (mkF m 14 #[.val (.long q0), .second, .val (.long (q0 + (6983438078262162902 : Int64))), .second, .val (.long (q0 + (-4417276706812531889 : Int64))), .second, .unset, .unset, .unset, .unset, .unset, .unset, .unset, .unset] [(.long q0)])) (fun _ k => XS.lloadN X2.here hx rfl (hb hby at_13) rfl k) ?_
  refine Dn.by (U' := T2.setTop (mkF m 15 #[.val (.long q0), .second, .val (.long (q0 + (6983438078262162902 : Int64))), .second, .val (.long (q0 + (-4417276706812531889 : Int64))), .second, .unset, .unset, .unset, .unset, .unset, .unset, .unset, .unset] [(.int (2 : Int32)), (.long q0)])) (fun _ k => XS.iconst X2.here hx rfl (hb hby at_14)  k) ?_
  obtain ⟨_, _, ⟨T3, L3, k3, n3⟩, -, X3, ⟨Lc3, hQ3, l3, y3, z3⟩, st3⟩ := Jvm.LawKit.callS X2 hx (y := (⟨"com/example/nadir/nadir/XxHash64", "accumulator", "(JI)J"⟩ : MethodName)) hown (mvT hZ (hw _ (List.mem_of_getElem? (i := 0) rfl))) (mvT hZ (hw _ (List.mem_of_getElem? (i := 1) rfl))) (mvT hZ (hw _ (List.mem_of_getElem? (i := 2) rfl))) (mvT hZ (hw _ (List.mem_of_getElem? (i := 3) rfl))) (by decide) (backOf (W := 0) (rm1 l Z a0 hw [] q0 (2 : Int32)  h0 n0 Z0 ) hZ (hw _ (List.mem_of_getElem? (i := 3) rfl)) (hw _ (List.mem_of_getElem? (i := 2) rfl)) (by decide) (by decide)) (g := (mkF m 15 #[.val (.long q0), .second, .val (.long (q0 + (6983438078262162902 : Int64))), .second, .val (.long (q0 + (-4417276706812531889 : Int64))), .second, .unset, .unset, .unset, .unset, .unset, .unset, .unset, .unset] [(.int (2 : Int32)), (.long q0)])) rfl (by rw [hml]; rfl) (argsL := [(.long q0), (.int (2 : Int32))]) (rest := []) (lenOf pd0 rfl) rfl (by show 2 * 0 + _ ≤ _; exact Nat.le_of_eq rfl) (hb hby at_15) (fun _ _ => ⟨rfl, e2, (by decide : 0 + 0 ≤ _), (by decide : 0 + 0 ≤ _)⟩)
  dsimp only [Pt.U, Pt.locs, Pt.cells, Pt.slots] at X3 l3 y3 z3 st3 hQ3
  subst l3 y3 z3
  obtain ⟨rfl, N3q, e3⟩ := hQ3
  have N3 := Fr.app N2 N3q
  refine Dn.by (U' := T3.setTop (mkF m 18 #[.val (.long q0), .second, .val (.long (q0 + (6983438078262162902 : Int64))), .second, .val (.long (q0 + (-4417276706812531889 : Int64))), .second, .unset, .unset, .unset, .unset, .unset, .unset, .unset, .unset] [(.long (accu q0 (2 : Int32)))])) st3 ?_
  rw [show (accu q0 (2 : Int32)) = q0 from own_2 q0]
  refine Dn.by (U' := T3.setTop (mkF m 20 #[.val (.long q0), .second, .val (.long (q0 + (6983438078262162902 : Int64))), .second, .val (.long (q0 + (-4417276706812531889 : Int64))), .second, .val (.long q0), .second, .unset, .unset, .unset, .unset, .unset, .unset] [])) (fun _ k => XS.lstore X3.here hx rfl (hb hby at_18) rfl (l' := #[.val (.long q0), .second, .val (.long (q0 + (6983438078262162902 : Int64))), .second, .val (.long (q0 + (-4417276706812531889 : Int64))), .second, .val (.long q0), .second, .unset, .unset, .unset, .unset, .unset, .unset]) rfl k) ?_
  refine Dn.by (U' := T3.setTop (mkF m 21 #[.val (.long q0), .second, .val (.long (q0 + (6983438078262162902 : Int64))), .second, .val (.long (q0 + (-4417276706812531889 : Int64))), .second, .val (.long q0), .second, .unset, .unset, .unset, .unset, .unset, .unset] [(.long q0)])) (fun _ k => XS.lloadN X3.here hx rfl (hb hby at_20) rfl k) ?_
  refine Dn.by (U' := T3.setTop (mkF m 22 #[.val (.long q0), .second, .val (.long (q0 + (6983438078262162902 : Int64))), .second, .val (.long (q0 + (-4417276706812531889 : Int64))), .second, .val (.long q0), .second, .unset, .unset, .unset, .unset, .unset, .unset] [(.int (3 : Int32)), (.long q0)])) (fun _ k => XS.iconst X3.here hx rfl (hb hby at_21)  k) ?_
  obtain ⟨_, _, ⟨T4, L4, k4, n4⟩, -, X4, ⟨Lc4, hQ4, l4, y4, z4⟩, st4⟩ := Jvm.LawKit.callS X3 hx (y := (⟨"com/example/nadir/nadir/XxHash64", "accumulator", "(JI)J"⟩ : MethodName)) hown (mvT hZ (hw _ (List.mem_of_getElem? (i := 0) rfl))) (mvT hZ (hw _ (List.mem_of_getElem? (i := 1) rfl))) (mvT hZ (hw _ (List.mem_of_getElem? (i := 2) rfl))) (mvT hZ (hw _ (List.mem_of_getElem? (i := 3) rfl))) (by decide) (backOf (W := 0) (rm1 l Z a0 hw [] q0 (3 : Int32)  h0 n0 Z0 ) hZ (hw _ (List.mem_of_getElem? (i := 3) rfl)) (hw _ (List.mem_of_getElem? (i := 2) rfl)) (by decide) (by decide)) (g := (mkF m 22 #[.val (.long q0), .second, .val (.long (q0 + (6983438078262162902 : Int64))), .second, .val (.long (q0 + (-4417276706812531889 : Int64))), .second, .val (.long q0), .second, .unset, .unset, .unset, .unset, .unset, .unset] [(.int (3 : Int32)), (.long q0)])) rfl (by rw [hml]; rfl) (argsL := [(.long q0), (.int (3 : Int32))]) (rest := []) (lenOf pd0 rfl) rfl (by show 2 * 0 + _ ≤ _; exact Nat.le_of_eq rfl) (hb hby at_22) (fun _ _ => ⟨rfl, e3, (by decide : 0 + 0 ≤ _), (by decide : 0 + 0 ≤ _)⟩)
  dsimp only [Pt.U, Pt.locs, Pt.cells, Pt.slots] at X4 l4 y4 z4 st4 hQ4
  subst l4 y4 z4
  obtain ⟨rfl, N4q, e4⟩ := hQ4
  have N4 := Fr.app N3 N4q
  refine Dn.by (U' := T4.setTop (mkF m 25 #[.val (.long q0), .second, .val (.long (q0 + (6983438078262162902 : Int64))), .second, .val (.long (q0 + (-4417276706812531889 : Int64))), .second, .val (.long q0), .second, .unset, .unset, .unset, .unset, .unset, .unset] [(.long (accu q0 (3 : Int32)))])) st4 ?_
  rw [show (accu q0 (3 : Int32)) = (q0 + (7046029288634856825 : Int64)) from own_3 q0]
  refine Dn.by (U' := T4.setTop (mkF m 27 #[.val (.long q0), .second, .val (.long (q0 + (6983438078262162902 : Int64))), .second, .val (.long (q0 + (-4417276706812531889 : Int64))), .second, .val (.long q0), .second, .val (.long (q0 + (7046029288634856825 : Int64))), .second, .unset, .unset, .unset, .unset] [])) (fun _ k => XS.lstore X4.here hx rfl (hb hby at_25) rfl (l' := #[.val (.long q0), .second, .val (.long (q0 + (6983438078262162902 : Int64))), .second, .val (.long (q0 + (-4417276706812531889 : Int64))), .second, .val (.long q0), .second, .val (.long (q0 + (7046029288634856825 : Int64))), .second, .unset, .unset, .unset, .unset]) rfl k) ?_
  refine Dn.by (U' := T4.setTop (mkF m 28 #[.val (.long q0), .second, .val (.long (q0 + (6983438078262162902 : Int64))), .second, .val (.long (q0 + (-4417276706812531889 : Int64))), .second, .val (.long q0), .second, .val (.long (q0 + (7046029288634856825 : Int64))), .second, .unset, .unset, .unset, .unset] [(.long (q0 + (6983438078262162902 : Int64)))])) (fun _ k => XS.lloadN X4.here hx rfl (hb hby at_27) rfl k) ?_
  refine Dn.by (U' := T4.setTop (mkF m 29 #[.val (.long q0), .second, .val (.long (q0 + (6983438078262162902 : Int64))), .second, .val (.long (q0 + (-4417276706812531889 : Int64))), .second, .val (.long q0), .second, .val (.long (q0 + (7046029288634856825 : Int64))), .second, .unset, .unset, .unset, .unset] [(.long q0), (.long (q0 + (6983438078262162902 : Int64)))])) (fun _ k => XS.lloadN X4.here hx rfl (hb hby at_28) rfl k) ?_
  refine Dn.by (U' := T4.setTop (mkF m 32 #[.val (.long q0), .second, .val (.long (q0 + (6983438078262162902 : Int64))), .second, .val (.long (q0 + (-4417276706812531889 : Int64))), .second, .val (.long q0), .second, .val (.long (q0 + (7046029288634856825 : Int64))), .second, .unset, .unset, .unset, .unset] [(.long (6983438078262162902 : Int64)), (.long q0), (.long (q0 + (6983438078262162902 : Int64)))])) (X4.ldc2Long hx hown (mvT hZ (hw _ (List.mem_of_getElem? (i := 6) rfl))) (g := (mkF m 29 #[.val (.long q0), .second, .val (.long (q0 + (6983438078262162902 : Int64))), .second, .val (.long (q0 + (-4417276706812531889 : Int64))), .second, .val (.long q0), .second, .val (.long (q0 + (7046029288634856825 : Int64))), .second, .unset, .unset, .unset, .unset] [(.long q0), (.long (q0 + (6983438078262162902 : Int64)))])) rfl (hb hby at_29)) ?_
  refine Dn.by (U' := T4.setTop (mkF m 33 #[.val (.long q0), .second, .val (.long (q0 + (6983438078262162902 : Int64))), .second, .val (.long (q0 + (-4417276706812531889 : Int64))), .second, .val (.long q0), .second, .val (.long (q0 + (7046029288634856825 : Int64))), .second, .unset, .unset, .unset, .unset] [(.long (q0 + (6983438078262162902 : Int64))), (.long (q0 + (6983438078262162902 : Int64)))])) (fun _ k => XS.ladd X4.here hx rfl (hb hby at_32) rfl k) ?_
  refine Dn.by (U' := T4.setTop (mkF m 34 #[.val (.long q0), .second, .val (.long (q0 + (6983438078262162902 : Int64))), .second, .val (.long (q0 + (-4417276706812531889 : Int64))), .second, .val (.long q0), .second, .val (.long (q0 + (7046029288634856825 : Int64))), .second, .unset, .unset, .unset, .unset] [(.int (lcmpW (q0 + (6983438078262162902 : Int64)) (q0 + (6983438078262162902 : Int64))))])) (fun _ k => XS.lcmp X4.here hx rfl (hb hby at_33) rfl k) ?_
  refine Dn.by (U' := T4.setTop (mkF m 37 #[.val (.long q0), .second, .val (.long (q0 + (6983438078262162902 : Int64))), .second, .val (.long (q0 + (-4417276706812531889 : Int64))), .second, .val (.long q0), .second, .val (.long (q0 + (7046029288634856825 : Int64))), .second, .unset, .unset, .unset, .unset] [])) (fun _ k => XS.ifNo X4.here hx rfl (hb hby at_34) rfl ((if0 _ _).trans (teq ((lw_eq _ _).mpr rfl)).2) k) ?_
  refine Dn.by (U' := T4.setTop (mkF m 38 #[.val (.long q0), .second, .val (.long (q0 + (6983438078262162902 : Int64))), .second, .val (.long (q0 + (-4417276706812531889 : Int64))), .second, .val (.long q0), .second, .val (.long (q0 + (7046029288634856825 : Int64))), .second, .unset, .unset, .unset, .unset] [(.int (1 : Int32))])) (fun _ k => XS.iconst X4.here hx rfl (hb hby at_37)  k) ?_
  refine Dn.by (U' := T4.setTop (mkF m 42 #[.val (.long q0), .second, .val (.long (q0 + (6983438078262162902 : Int64))), .second, .val (.long (q0 + (-4417276706812531889 : Int64))), .second, .val (.long q0), .second, .val (.long (q0 + (7046029288634856825 : Int64))), .second, .unset, .unset, .unset, .unset] [(.int (1 : Int32))])) (fun _ k => XS.goto X4.here hx rfl (pc0 := 38) (pc' := 42) rfl (hb hby at_38) (by decide) (by decide) k) ?_
  refine Dn.by (U' := T4.setTop (mkF m 44 #[.val (.long q0), .second, .val (.long (q0 + (6983438078262162902 : Int64))), .second, .val (.long (q0 + (-4417276706812531889 : Int64))), .second, .val (.long q0), .second, .val (.long (q0 + (7046029288634856825 : Int64))), .second, .val (.int (1 : Int32)), .unset, .unset, .unset] [])) (fun _ k => XS.istore X4.here hx rfl (hb hby at_42) rfl (l' := #[.val (.long q0), .second, .val (.long (q0 + (6983438078262162902 : Int64))), .second, .val (.long (q0 + (-4417276706812531889 : Int64))), .second, .val (.long q0), .second, .val (.long (q0 + (7046029288634856825 : Int64))), .second, .val (.int (1 : Int32)), .unset, .unset, .unset]) rfl k) ?_
  refine Dn.by (U' := T4.setTop (mkF m 46 #[.val (.long q0), .second, .val (.long (q0 + (6983438078262162902 : Int64))), .second, .val (.long (q0 + (-4417276706812531889 : Int64))), .second, .val (.long q0), .second, .val (.long (q0 + (7046029288634856825 : Int64))), .second, .val (.int (1 : Int32)), .unset, .unset, .unset] [(.long (q0 + (-4417276706812531889 : Int64)))])) (fun _ k => XS.lload X4.here hx rfl (hb hby at_44) rfl k) ?_
  refine Dn.by (U' := T4.setTop (mkF m 47 #[.val (.long q0), .second, .val (.long (q0 + (6983438078262162902 : Int64))), .second, .val (.long (q0 + (-4417276706812531889 : Int64))), .second, .val (.long q0), .second, .val (.long (q0 + (7046029288634856825 : Int64))), .second, .val (.int (1 : Int32)), .unset, .unset, .unset] [(.long q0), (.long (q0 + (-4417276706812531889 : Int64)))])) (fun _ k => XS.lloadN X4.here hx rfl (hb hby at_46) rfl k) ?_
  refine Dn.by (U' := T4.setTop (mkF m 50 #[.val (.long q0), .second, .val (.long (q0 + (6983438078262162902 : Int64))), .second, .val (.long (q0 + (-4417276706812531889 : Int64))), .second, .val (.long q0), .second, .val (.long (q0 + (7046029288634856825 : Int64))), .second, .val (.int (1 : Int32)), .unset, .unset, .unset] [(.long (-4417276706812531889 : Int64)), (.long q0), (.long (q0 + (-4417276706812531889 : Int64)))])) (X4.ldc2Long hx hown (mvT hZ (hw _ (List.mem_of_getElem? (i := 7) rfl))) (g := (mkF m 47 #[.val (.long q0), .second, .val (.long (q0 + (6983438078262162902 : Int64))), .second, .val (.long (q0 + (-4417276706812531889 : Int64))), .second, .val (.long q0), .second, .val (.long (q0 + (7046029288634856825 : Int64))), .second, .val (.int (1 : Int32)), .unset, .unset, .unset] [(.long q0), (.long (q0 + (-4417276706812531889 : Int64)))])) rfl (hb hby at_47)) ?_
  refine Dn.by (U' := T4.setTop (mkF m 51 #[.val (.long q0), .second, .val (.long (q0 + (6983438078262162902 : Int64))), .second, .val (.long (q0 + (-4417276706812531889 : Int64))), .second, .val (.long q0), .second, .val (.long (q0 + (7046029288634856825 : Int64))), .second, .val (.int (1 : Int32)), .unset, .unset, .unset] [(.long (q0 + (-4417276706812531889 : Int64))), (.long (q0 + (-4417276706812531889 : Int64)))])) (fun _ k => XS.ladd X4.here hx rfl (hb hby at_50) rfl k) ?_
  refine Dn.by (U' := T4.setTop (mkF m 52 #[.val (.long q0), .second, .val (.long (q0 + (6983438078262162902 : Int64))), .second, .val (.long (q0 + (-4417276706812531889 : Int64))), .second, .val (.long q0), .second, .val (.long (q0 + (7046029288634856825 : Int64))), .second, .val (.int (1 : Int32)), .unset, .unset, .unset] [(.int (lcmpW (q0 + (-4417276706812531889 : Int64)) (q0 + (-4417276706812531889 : Int64))))])) (fun _ k => XS.lcmp X4.here hx rfl (hb hby at_51) rfl k) ?_
  refine Dn.by (U' := T4.setTop (mkF m 55 #[.val (.long q0), .second, .val (.long (q0 + (6983438078262162902 : Int64))), .second, .val (.long (q0 + (-4417276706812531889 : Int64))), .second, .val (.long q0), .second, .val (.long (q0 + (7046029288634856825 : Int64))), .second, .val (.int (1 : Int32)), .unset, .unset, .unset] [])) (fun _ k => XS.ifNo X4.here hx rfl (hb hby at_52) rfl ((if0 _ _).trans (teq ((lw_eq _ _).mpr rfl)).2) k) ?_
  refine Dn.by (U' := T4.setTop (mkF m 56 #[.val (.long q0), .second, .val (.long (q0 + (6983438078262162902 : Int64))), .second, .val (.long (q0 + (-4417276706812531889 : Int64))), .second, .val (.long q0), .second, .val (.long (q0 + (7046029288634856825 : Int64))), .second, .val (.int (1 : Int32)), .unset, .unset, .unset] [(.int (1 : Int32))])) (fun _ k => XS.iconst X4.here hx rfl (hb hby at_55)  k) ?_
  refine Dn.by (U' := T4.setTop (mkF m 60 #[.val (.long q0), .second, .val (.long (q0 + (6983438078262162902 : Int64))), .second, .val (.long (q0 + (-4417276706812531889 : Int64))), .second, .val (.long q0), .second, .val (.long (q0 + (7046029288634856825 : Int64))), .second, .val (.int (1 : Int32)), .unset, .unset, .unset] [(.int (1 : Int32))])) (fun _ k => XS.goto X4.here hx rfl (pc0 := 56) (pc' := 60) rfl (hb hby at_56) (by decide) (by decide) k) ?_
  refine Dn.by (U' := T4.setTop (mkF m 62 #[.val (.long q0), .second, .val (.long (q0 + (6983438078262162902 : Int64))), .second, .val (.long (q0 + (-4417276706812531889 : Int64))), .second, .val (.long q0), .second, .val (.long (q0 + (7046029288634856825 : Int64))), .second, .val (.int (1 : Int32)), .val (.int (1 : Int32)), .unset, .unset] [])) (fun _ k => XS.istore X4.here hx rfl (hb hby at_60) rfl (l' := #[.val (.long q0), .second, .val (.long (q0 + (6983438078262162902 : Int64))), .second, .val (.long (q0 + (-4417276706812531889 : Int64))), .second, .val (.long q0), .second, .val (.long (q0 + (7046029288634856825 : Int64))), .second, .val (.int (1 : Int32)), .val (.int (1 : Int32)), .unset, .unset]) rfl k) ?_
  refine Dn.by (U' := T4.setTop (mkF m 64 #[.val (.long q0), .second, .val (.long (q0 + (6983438078262162902 : Int64))), .second, .val (.long (q0 + (-4417276706812531889 : Int64))), .second, .val (.long q0), .second, .val (.long (q0 + (7046029288634856825 : Int64))), .second, .val (.int (1 : Int32)), .val (.int (1 : Int32)), .unset, .unset] [(.long q0)])) (fun _ k => XS.lload X4.here hx rfl (hb hby at_62) rfl k) ?_
  refine Dn.by (U' := T4.setTop (mkF m 65 #[.val (.long q0), .second, .val (.long (q0 + (6983438078262162902 : Int64))), .second, .val (.long (q0 + (-4417276706812531889 : Int64))), .second, .val (.long q0), .second, .val (.long (q0 + (7046029288634856825 : Int64))), .second, .val (.int (1 : Int32)), .val (.int (1 : Int32)), .unset, .unset] [(.long q0), (.long q0)])) (fun _ k => XS.lloadN X4.here hx rfl (hb hby at_64) rfl k) ?_
  refine Dn.by (U' := T4.setTop (mkF m 66 #[.val (.long q0), .second, .val (.long (q0 + (6983438078262162902 : Int64))), .second, .val (.long (q0 + (-4417276706812531889 : Int64))), .second, .val (.long q0), .second, .val (.long (q0 + (7046029288634856825 : Int64))), .second, .val (.int (1 : Int32)), .val (.int (1 : Int32)), .unset, .unset] [(.int (lcmpW q0 q0))])) (fun _ k => XS.lcmp X4.here hx rfl (hb hby at_65) rfl k) ?_
  refine Dn.by (U' := T4.setTop (mkF m 69 #[.val (.long q0), .second, .val (.long (q0 + (6983438078262162902 : Int64))), .second, .val (.long (q0 + (-4417276706812531889 : Int64))), .second, .val (.long q0), .second, .val (.long (q0 + (7046029288634856825 : Int64))), .second, .val (.int (1 : Int32)), .val (.int (1 : Int32)), .unset, .unset] [])) (fun _ k => XS.ifNo X4.here hx rfl (hb hby at_66) rfl ((if0 _ _).trans (teq ((lw_eq _ _).mpr rfl)).2) k) ?_
  refine Dn.by (U' := T4.setTop (mkF m 70 #[.val (.long q0), .second, .val (.long (q0 + (6983438078262162902 : Int64))), .second, .val (.long (q0 + (-4417276706812531889 : Int64))), .second, .val (.long q0), .second, .val (.long (q0 + (7046029288634856825 : Int64))), .second, .val (.int (1 : Int32)), .val (.int (1 : Int32)), .unset, .unset] [(.int (1 : Int32))])) (fun _ k => XS.iconst X4.here hx rfl (hb hby at_69)  k) ?_
  refine Dn.by (U' := T4.setTop (mkF m 74 #[.val (.long q0), .second, .val (.long (q0 + (6983438078262162902 : Int64))), .second, .val (.long (q0 + (-4417276706812531889 : Int64))), .second, .val (.long q0), .second, .val (.long (q0 + (7046029288634856825 : Int64))), .second, .val (.int (1 : Int32)), .val (.int (1 : Int32)), .unset, .unset] [(.int (1 : Int32))])) (fun _ k => XS.goto X4.here hx rfl (pc0 := 70) (pc' := 74) rfl (hb hby at_70) (by decide) (by decide) k) ?_
  refine Dn.by (U' := T4.setTop (mkF m 76 #[.val (.long q0), .second, .val (.long (q0 + (6983438078262162902 : Int64))), .second, .val (.long (q0 + (-4417276706812531889 : Int64))), .second, .val (.long q0), .second, .val (.long (q0 + (7046029288634856825 : Int64))), .second, .val (.int (1 : Int32)), .val (.int (1 : Int32)), .val (.int (1 : Int32)), .unset] [])) (fun _ k => XS.istore X4.here hx rfl (hb hby at_74) rfl (l' := #[.val (.long q0), .second, .val (.long (q0 + (6983438078262162902 : Int64))), .second, .val (.long (q0 + (-4417276706812531889 : Int64))), .second, .val (.long q0), .second, .val (.long (q0 + (7046029288634856825 : Int64))), .second, .val (.int (1 : Int32)), .val (.int (1 : Int32)), .val (.int (1 : Int32)), .unset]) rfl k) ?_
  refine Dn.by (U' := T4.setTop (mkF m 78 #[.val (.long q0), .second, .val (.long (q0 + (6983438078262162902 : Int64))), .second, .val (.long (q0 + (-4417276706812531889 : Int64))), .second, .val (.long q0), .second, .val (.long (q0 + (7046029288634856825 : Int64))), .second, .val (.int (1 : Int32)), .val (.int (1 : Int32)), .val (.int (1 : Int32)), .unset] [(.long (q0 + (7046029288634856825 : Int64)))])) (fun _ k => XS.lload X4.here hx rfl (hb hby at_76) rfl k) ?_
  refine Dn.by (U' := T4.setTop (mkF m 79 #[.val (.long q0), .second, .val (.long (q0 + (6983438078262162902 : Int64))), .second, .val (.long (q0 + (-4417276706812531889 : Int64))), .second, .val (.long q0), .second, .val (.long (q0 + (7046029288634856825 : Int64))), .second, .val (.int (1 : Int32)), .val (.int (1 : Int32)), .val (.int (1 : Int32)), .unset] [(.long q0), (.long (q0 + (7046029288634856825 : Int64)))])) (fun _ k => XS.lloadN X4.here hx rfl (hb hby at_78) rfl k) ?_
  refine Dn.by (U' := T4.setTop (mkF m 82 #[.val (.long q0), .second, .val (.long (q0 + (6983438078262162902 : Int64))), .second, .val (.long (q0 + (-4417276706812531889 : Int64))), .second, .val (.long q0), .second, .val (.long (q0 + (7046029288634856825 : Int64))), .second, .val (.int (1 : Int32)), .val (.int (1 : Int32)), .val (.int (1 : Int32)), .unset] [(.long (7046029288634856825 : Int64)), (.long q0), (.long (q0 + (7046029288634856825 : Int64)))])) (X4.ldc2Long hx hown (mvT hZ (hw _ (List.mem_of_getElem? (i := 8) rfl))) (g := (mkF m 79 #[.val (.long q0), .second, .val (.long (q0 + (6983438078262162902 : Int64))), .second, .val (.long (q0 + (-4417276706812531889 : Int64))), .second, .val (.long q0), .second, .val (.long (q0 + (7046029288634856825 : Int64))), .second, .val (.int (1 : Int32)), .val (.int (1 : Int32)), .val (.int (1 : Int32)), .unset] [(.long q0), (.long (q0 + (7046029288634856825 : Int64)))])) rfl (hb hby at_79)) ?_
  refine Dn.by (U' := T4.setTop (mkF m 83 #[.val (.long q0), .second, .val (.long (q0 + (6983438078262162902 : Int64))), .second, .val (.long (q0 + (-4417276706812531889 : Int64))), .second, .val (.long q0), .second, .val (.long (q0 + (7046029288634856825 : Int64))), .second, .val (.int (1 : Int32)), .val (.int (1 : Int32)), .val (.int (1 : Int32)), .unset] [(.long (q0 + (7046029288634856825 : Int64))), (.long (q0 + (7046029288634856825 : Int64)))])) (fun _ k => XS.ladd X4.here hx rfl (hb hby at_82) rfl k) ?_
  refine Dn.by (U' := T4.setTop (mkF m 84 #[.val (.long q0), .second, .val (.long (q0 + (6983438078262162902 : Int64))), .second, .val (.long (q0 + (-4417276706812531889 : Int64))), .second, .val (.long q0), .second, .val (.long (q0 + (7046029288634856825 : Int64))), .second, .val (.int (1 : Int32)), .val (.int (1 : Int32)), .val (.int (1 : Int32)), .unset] [(.int (lcmpW (q0 + (7046029288634856825 : Int64)) (q0 + (7046029288634856825 : Int64))))])) (fun _ k => XS.lcmp X4.here hx rfl (hb hby at_83) rfl k) ?_
  refine Dn.by (U' := T4.setTop (mkF m 87 #[.val (.long q0), .second, .val (.long (q0 + (6983438078262162902 : Int64))), .second, .val (.long (q0 + (-4417276706812531889 : Int64))), .second, .val (.long q0), .second, .val (.long (q0 + (7046029288634856825 : Int64))), .second, .val (.int (1 : Int32)), .val (.int (1 : Int32)), .val (.int (1 : Int32)), .unset] [])) (fun _ k => XS.ifNo X4.here hx rfl (hb hby at_84) rfl ((if0 _ _).trans (teq ((lw_eq _ _).mpr rfl)).2) k) ?_
  refine Dn.by (U' := T4.setTop (mkF m 88 #[.val (.long q0), .second, .val (.long (q0 + (6983438078262162902 : Int64))), .second, .val (.long (q0 + (-4417276706812531889 : Int64))), .second, .val (.long q0), .second, .val (.long (q0 + (7046029288634856825 : Int64))), .second, .val (.int (1 : Int32)), .val (.int (1 : Int32)), .val (.int (1 : Int32)), .unset] [(.int (1 : Int32))])) (fun _ k => XS.iconst X4.here hx rfl (hb hby at_87)  k) ?_
  refine Dn.by (U' := T4.setTop (mkF m 92 #[.val (.long q0), .second, .val (.long (q0 + (6983438078262162902 : Int64))), .second, .val (.long (q0 + (-4417276706812531889 : Int64))), .second, .val (.long q0), .second, .val (.long (q0 + (7046029288634856825 : Int64))), .second, .val (.int (1 : Int32)), .val (.int (1 : Int32)), .val (.int (1 : Int32)), .unset] [(.int (1 : Int32))])) (fun _ k => XS.goto X4.here hx rfl (pc0 := 88) (pc' := 92) rfl (hb hby at_88) (by decide) (by decide) k) ?_
  refine Dn.by (U' := T4.setTop (mkF m 94 #[.val (.long q0), .second, .val (.long (q0 + (6983438078262162902 : Int64))), .second, .val (.long (q0 + (-4417276706812531889 : Int64))), .second, .val (.long q0), .second, .val (.long (q0 + (7046029288634856825 : Int64))), .second, .val (.int (1 : Int32)), .val (.int (1 : Int32)), .val (.int (1 : Int32)), .val (.int (1 : Int32))] [])) (fun _ k => XS.istore X4.here hx rfl (hb hby at_92) rfl (l' := #[.val (.long q0), .second, .val (.long (q0 + (6983438078262162902 : Int64))), .second, .val (.long (q0 + (-4417276706812531889 : Int64))), .second, .val (.long q0), .second, .val (.long (q0 + (7046029288634856825 : Int64))), .second, .val (.int (1 : Int32)), .val (.int (1 : Int32)), .val (.int (1 : Int32)), .val (.int (1 : Int32))]) rfl k) ?_
  refine Dn.by (U' := T4.setTop (mkF m 96 #[.val (.long q0), .second, .val (.long (q0 + (6983438078262162902 : Int64))), .second, .val (.long (q0 + (-4417276706812531889 : Int64))), .second, .val (.long q0), .second, .val (.long (q0 + (7046029288634856825 : Int64))), .second, .val (.int (1 : Int32)), .val (.int (1 : Int32)), .val (.int (1 : Int32)), .val (.int (1 : Int32))] [(.int (1 : Int32))])) (fun _ k => XS.iload X4.here hx rfl (hb hby at_94) rfl k) ?_
  refine Dn.by (U' := T4.setTop (mkF m 99 #[.val (.long q0), .second, .val (.long (q0 + (6983438078262162902 : Int64))), .second, .val (.long (q0 + (-4417276706812531889 : Int64))), .second, .val (.long q0), .second, .val (.long (q0 + (7046029288634856825 : Int64))), .second, .val (.int (1 : Int32)), .val (.int (1 : Int32)), .val (.int (1 : Int32)), .val (.int (1 : Int32))] [])) (fun _ k => XS.ifNo X4.here hx rfl (hb hby at_96) rfl (by decide) k) ?_
  refine Dn.by (U' := T4.setTop (mkF m 101 #[.val (.long q0), .second, .val (.long (q0 + (6983438078262162902 : Int64))), .second, .val (.long (q0 + (-4417276706812531889 : Int64))), .second, .val (.long q0), .second, .val (.long (q0 + (7046029288634856825 : Int64))), .second, .val (.int (1 : Int32)), .val (.int (1 : Int32)), .val (.int (1 : Int32)), .val (.int (1 : Int32))] [(.int (1 : Int32))])) (fun _ k => XS.iload X4.here hx rfl (hb hby at_99) rfl k) ?_
  refine Dn.by (U' := T4.setTop (mkF m 104 #[.val (.long q0), .second, .val (.long (q0 + (6983438078262162902 : Int64))), .second, .val (.long (q0 + (-4417276706812531889 : Int64))), .second, .val (.long q0), .second, .val (.long (q0 + (7046029288634856825 : Int64))), .second, .val (.int (1 : Int32)), .val (.int (1 : Int32)), .val (.int (1 : Int32)), .val (.int (1 : Int32))] [])) (fun _ k => XS.ifNo X4.here hx rfl (hb hby at_101) rfl (by decide) k) ?_
  refine Dn.by (U' := T4.setTop (mkF m 106 #[.val (.long q0), .second, .val (.long (q0 + (6983438078262162902 : Int64))), .second, .val (.long (q0 + (-4417276706812531889 : Int64))), .second, .val (.long q0), .second, .val (.long (q0 + (7046029288634856825 : Int64))), .second, .val (.int (1 : Int32)), .val (.int (1 : Int32)), .val (.int (1 : Int32)), .val (.int (1 : Int32))] [(.int (1 : Int32))])) (fun _ k => XS.iload X4.here hx rfl (hb hby at_104) rfl k) ?_
  refine Dn.by (U' := T4.setTop (mkF m 109 #[.val (.long q0), .second, .val (.long (q0 + (6983438078262162902 : Int64))), .second, .val (.long (q0 + (-4417276706812531889 : Int64))), .second, .val (.long q0), .second, .val (.long (q0 + (7046029288634856825 : Int64))), .second, .val (.int (1 : Int32)), .val (.int (1 : Int32)), .val (.int (1 : Int32)), .val (.int (1 : Int32))] [])) (fun _ k => XS.ifNo X4.here hx rfl (hb hby at_106) rfl (by decide) k) ?_
  refine Dn.by (U' := T4.setTop (mkF m 111 #[.val (.long q0), .second, .val (.long (q0 + (6983438078262162902 : Int64))), .second, .val (.long (q0 + (-4417276706812531889 : Int64))), .second, .val (.long q0), .second, .val (.long (q0 + (7046029288634856825 : Int64))), .second, .val (.int (1 : Int32)), .val (.int (1 : Int32)), .val (.int (1 : Int32)), .val (.int (1 : Int32))] [(.int (1 : Int32))])) (fun _ k => XS.iload X4.here hx rfl (hb hby at_109) rfl k) ?_
  refine Dn.by (U' := T4.setTop (mkF m 114 #[.val (.long q0), .second, .val (.long (q0 + (6983438078262162902 : Int64))), .second, .val (.long (q0 + (-4417276706812531889 : Int64))), .second, .val (.long q0), .second, .val (.long (q0 + (7046029288634856825 : Int64))), .second, .val (.int (1 : Int32)), .val (.int (1 : Int32)), .val (.int (1 : Int32)), .val (.int (1 : Int32))] [])) (fun _ k => XS.ifNo X4.here hx rfl (hb hby at_111) rfl (by decide) k) ?_
  refine Dn.by (U' := T4.setTop (mkF m 115 #[.val (.long q0), .second, .val (.long (q0 + (6983438078262162902 : Int64))), .second, .val (.long (q0 + (-4417276706812531889 : Int64))), .second, .val (.long q0), .second, .val (.long (q0 + (7046029288634856825 : Int64))), .second, .val (.int (1 : Int32)), .val (.int (1 : Int32)), .val (.int (1 : Int32)), .val (.int (1 : Int32))] [(.int (1 : Int32))])) (fun _ k => XS.iconst X4.here hx rfl (hb hby at_114)  k) ?_
  refine Dn.by (U' := T4.setTop (mkF m 119 #[.val (.long q0), .second, .val (.long (q0 + (6983438078262162902 : Int64))), .second, .val (.long (q0 + (-4417276706812531889 : Int64))), .second, .val (.long q0), .second, .val (.long (q0 + (7046029288634856825 : Int64))), .second, .val (.int (1 : Int32)), .val (.int (1 : Int32)), .val (.int (1 : Int32)), .val (.int (1 : Int32))] [(.int (1 : Int32))])) (fun _ k => XS.goto X4.here hx rfl (pc0 := 115) (pc' := 119) rfl (hb hby at_115) (by decide) (by decide) k) ?_
  refine Dn.out X4 (v := (some (.int (1 : Int32)))) (fun h => by rw [Bd.returns] at h; cases h) (BodyLoose.notSynchronized Bd) (fun _ hr => retN X4 hx (t := .boolean) Bd.returns (by simp) (hb hby at_119) hr) (by decide) (by decide) ?_
  rw [e4]
  exact ⟨rfl, N4⟩
set_option maxRecDepth 65536 in
set_option maxHeartbeats 40000000 in
theorem comes_1 {Post : Tables → Env → Array Value → State → Outcome → State → Prop} (hpost : ∀ tb e args s v u, (limb_1_1.after args s (.returned v) u = true ∧ limb_1_2.after args s (.returned v) u = true ∧ True) → FrameEnd s (.returned v) u (Jvm.fieldLocs frame_1_writes args s ++ Jvm.arrayLocs frame_1_arrays args s ++ Jvm.staticLocs frame_1_statics s) 0 0 → Post tb e args s (.returned v) u) :
    ArmFor flags0 classFile x code maxLocals ret World_1 tables_1 room_1 Calls_1 rest_1 Pre_1 Post := by
  intro l hfl _ _ p e ha hc hk s m args below hf hA hF happ hP
  obtain ⟨hcalls, hrest, hpre⟩ := hP
  obtain ⟨-, -, -, hnamed, -, -, -, hat⟩ := (Spec.applies_iff hf).mp happ
  obtain ⟨hg, hn⟩ := and_e (Cond.before_iff.mp (show (Jvm.Cond.and given_1 narrow_1).before args s = true from hpre))
  obtain ⟨gg1, gg2⟩ := and_e hg
  obtain ⟨w0, rfl⟩ : ∃ w0 : Value, args = #[w0] := by
    have hs : args.size = 1 := by simpa [Cond.value, given_1] using gg1
    obtain ⟨L⟩ := args
    match L, hs with
    | [w0], _ => exact ⟨w0, rfl⟩
  have hw := fun d (hd : d ∈ tables_1) => atoms_spec (ws := Jvm.Cond.code x code maxLocals ret :: tables_1) hat d (List.mem_cons_of_mem _ hd)
  have hfit : Fit s := fun {y c} hc i hi => by
    obtain ⟨ha, rfl⟩ := Array.getElem?_eq_some_iff.mp hc
    have q := List.all_eq_true.mp ((Array.all_eq_true_iff_forall_mem.mp hF) _ (Array.getElem_mem ha)) i (List.mem_range.mpr hi)
    simpa [Array.getElem?_eq_getElem hi] using q
  obtain ⟨i0, ei0⟩ := isL_v gg2
  obtain rfl : w0 = (.long i0) := Option.some.inj ei0
  obtain ⟨n, o, h1, h2, h3, _, L, rfl, ⟨rfl, N⟩, hq⟩ := rm0 l s _ hw tables_1 i0  s.heap s.heap.size (Nat.le_refl _)  p e ha hc hk s m _ below hf ((Spec.applies_iff_loose hf).mp happ).1 ⟨rfl, State.Warmed39.refl s, rfl⟩ trivial
  refine ⟨n, _, h1, h2, h3, hpost _ _ _ _ _ _ ⟨Cond.after_iff.mpr rfl, Cond.after_iff.mpr (eq_i res_at (Term.int_eval (1)) rfl), trivial⟩ ⟨hq.1, hq.2.1, (hq.2.2.sift fun y hy => Or.inr (N y hy)).mono (by decide) (by decide)⟩⟩
theorem main_1_1 : Claimed_1_1 := comes_1 fun _ _ _ _ _ _ h hF => ⟨h.1, hF⟩
theorem main_1_2 : Claimed_1_2 := comes_1 fun _ _ _ _ _ _ h hF => ⟨h.2.1, hF⟩
end Jvm.Pilot.@@N@@
namespace Jvm.Pilot.@@N@@
open Jvm Jvm.ClassFile Sem Op Lib Jvm.Free Jvm.Stand Jvm.Pilot.@@N@@.Jvm.D
/-! MADE BY PROGRAM (witnessworld.py) out of the Statement's table words and the real class files: 7 classes; the members and pool entries that the words name. The judged class is class 1, her method 1. -/
namespace start1
open Jvm.ClassFile
def u (s : String) : CpInfo := .utf8 (stringToUtf16 s)
/-- a pool by its gaps: so many unusable entries, then the entry; so many at the end -/
def gap : Nat → List CpInfo → List CpInfo
  | 0, r => r
  | n + 1, r => .unusable :: gap n r
def poolList (es : List (Nat × CpInfo)) (last : Nat) : List CpInfo := es.foldr (fun e r => gap e.1 (e.2 :: r)) (gap last [])
def pool (es : List (Nat × CpInfo)) (last : Nat) : Array CpInfo := ⟨poolList es last⟩
def fileOf (pool : Array CpInfo) (this : Nat) (attrs : Array Attribute := #[]) (ms : Array MethodInfo := #[]) (fl : Nat := 33) (sup : Nat := 0) (ifs : Array Nat := #[]) (fds : Array FieldInfo := #[]) : ClassFile where
  minorVersion := 0
  majorVersion := 65
  constantPool := pool
  accessFlags := fl
  thisClass := this
  superClass := sup
  interfaces := ifs
  fields := fds
  methods := ms
  attributes := attrs
def plain (name : String) (sup : Option ClassId) : Class where
  name := name
  kind := .ordinary
  loader := none
  accessFlags := 33
  super := sup
  interfaces := #[]
  cf := none
  fields := #[]
  methods := #[]
  instanceTypes := #[]
  staticTypes := #[]
  resolved := #[]
  callSites := []
  init := .initialized
  statics := none
  mirror := none

def pool0 : Array CpInfo := pool [(5, u "<init>"), (0, u "()V"), (1, .class_ 10), (1, u "java/lang/Object")] 113

def k0m0 : Method := { name := "<init>", desc := "()V", sig := { parameters := [], returnType := none }, accessFlags := 1, code := none }
/-- java/lang/Object -/
def k0 : Class := { plain "java/lang/Object" none with
  accessFlags := 33
  interfaces := #[]
  cf := some (fileOf pool0 8 #[] #[{ accessFlags := 1, nameIndex := 5, descriptorIndex := 6, attributes := #[] }] 33 0 #[] #[])
  fields := #[]
  methods := #[k0m0]
  instanceTypes := #[]
  staticTypes := #[]
  resolved := Array.replicate 124 none
  statics := none }

def pool1 : Array CpInfo := pool [(2, .class_ 4), (1, u "java/lang/Object"), (0, u "<init>"), (0, u "()V"), (0, .methodref 8 9), (0, .class_ 10), (0, .nameAndType 11 12), (0, u "com/example/nadir/nadir/XxHash64"), (0, u "accumulator"), (0, u "(JI)J"), (0, .long 6983438078262162902), (1, .long 14029467366897019727), (1, .long 7046029288634856825), (1, .class_ 20), (0, u "com/example/nadir/nadir/XxHash64AccumulatorPinLaw"), (2, u "law"), (0, u "(J)Z")] 3

def k1m0 : Method := { name := "<init>", desc := "()V", sig := { parameters := [], returnType := none }, accessFlags := 2, code := none }
def k1c1 : Code := { maxStack := 6, maxLocals := 14, code := code, exceptionTable := #[], attributes := #[] }
def k1m1 : Method := { name := "law", desc := "(J)Z", sig := { parameters := [.long], returnType := some .boolean }, accessFlags := 9, code := some k1c1 }
/-- com/example/nadir/nadir/XxHash64AccumulatorPinLaw -/
def k1 : Class := { plain "com/example/nadir/nadir/XxHash64AccumulatorPinLaw" (some 0) with
  accessFlags := 49
  interfaces := #[]
  cf := some (fileOf pool1 19 #[] #[{ accessFlags := 2, nameIndex := 5, descriptorIndex := 6, attributes := #[] }, { accessFlags := 9, nameIndex := 23, descriptorIndex := 24, attributes := #[] }] 49 2 #[] #[])
  fields := #[]
  methods := #[k1m0, k1m1]
  instanceTypes := #[]
  staticTypes := #[]
  resolved := Array.replicate 28 none
  statics := none }

def pool2 : Array CpInfo := pool [(2, .class_ 4), (1, u "java/lang/Object"), (0, u "<init>"), (0, u "()V"), (1, .class_ 10), (1, u "com/example/nadir/nadir/XxHash64"), (11, u "LONGS"), (0, u "Ljava/lang/invoke/VarHandle;"), (12, u "INTS"), (14, u "accumulator"), (0, u "(JI)J"), (7, .long 11400714785074694791), (1, .long 14029467366897019727), (35, u "STRIPE"), (0, u "I"), (2, u "PRIME_1"), (0, u "J"), (0, u "PRIME_2"), (0, u "PRIME_3"), (0, u "PRIME_4"), (0, u "PRIME_5")] 11

def k2m0 : Method := { name := "<init>", desc := "()V", sig := { parameters := [], returnType := none }, accessFlags := 2, code := none }
def k2c1 : Code := { maxStack := 4, maxLocals := 3, code := prog_34_method_5_code, exceptionTable := #[], attributes := #[] }
def k2m1 : Method := { name := "accumulator", desc := "(JI)J", sig := { parameters := [.long, .int], returnType := some .long }, accessFlags := 8, code := some k2c1 }
/-- com/example/nadir/nadir/XxHash64 -/
def k2 : Class := { plain "com/example/nadir/nadir/XxHash64" (some 0) with
  accessFlags := 48
  interfaces := #[]
  cf := some (fileOf pool2 8 #[] #[{ accessFlags := 2, nameIndex := 5, descriptorIndex := 6, attributes := #[] }, { accessFlags := 8, nameIndex := 51, descriptorIndex := 52, attributes := #[] }] 48 2 #[] #[{ accessFlags := 24, nameIndex := 98, descriptorIndex := 99, attributes := #[] }, { accessFlags := 26, nameIndex := 102, descriptorIndex := 103, attributes := #[] }, { accessFlags := 26, nameIndex := 104, descriptorIndex := 103, attributes := #[] }, { accessFlags := 26, nameIndex := 105, descriptorIndex := 103, attributes := #[] }, { accessFlags := 26, nameIndex := 106, descriptorIndex := 103, attributes := #[] }, { accessFlags := 26, nameIndex := 107, descriptorIndex := 103, attributes := #[] }, { accessFlags := 26, nameIndex := 22, descriptorIndex := 23, attributes := #[] }, { accessFlags := 26, nameIndex := 36, descriptorIndex := 23, attributes := #[] }])
  fields := #[{ name := "STRIPE", type := .int, accessFlags := 24, slot := 0, constantValue := 0 }, { name := "PRIME_1", type := .long, accessFlags := 26, slot := 1, constantValue := 0 }, { name := "PRIME_2", type := .long, accessFlags := 26, slot := 2, constantValue := 0 }, { name := "PRIME_3", type := .long, accessFlags := 26, slot := 3, constantValue := 0 }, { name := "PRIME_4", type := .long, accessFlags := 26, slot := 4, constantValue := 0 }, { name := "PRIME_5", type := .long, accessFlags := 26, slot := 5, constantValue := 0 }, { name := "LONGS", type := (.object "java/lang/invoke/VarHandle"), accessFlags := 26, slot := 6, constantValue := 0 }, { name := "INTS", type := (.object "java/lang/invoke/VarHandle"), accessFlags := 26, slot := 7, constantValue := 0 }]
  methods := #[k2m0, k2m1]
  instanceTypes := #[]
  staticTypes := #[.int, .long, .long, .long, .long, .long, (.object "java/lang/invoke/VarHandle"), (.object "java/lang/invoke/VarHandle")]
  resolved := Array.replicate 119 none
  statics := none }

def pool3 : Array CpInfo := pool [(1, u "java/lang/Cloneable"), (0, .class_ 1), (0, u "java/lang/Object"), (0, .class_ 3)] 3

/-- java/lang/Cloneable -/
def k3 : Class := { plain "java/lang/Cloneable" (some 0) with
  accessFlags := 1537
  interfaces := #[]
  cf := some (fileOf pool3 2 #[] #[] 1537 4 #[] #[])
  fields := #[]
  methods := #[]
  instanceTypes := #[]
  staticTypes := #[]
  resolved := Array.replicate 8 none
  statics := none }

def pool4 : Array CpInfo := pool [(1, u "java/io/Serializable"), (0, .class_ 1), (0, u "java/lang/Object"), (0, .class_ 3)] 3

/-- java/io/Serializable -/
def k4 : Class := { plain "java/io/Serializable" (some 0) with
  accessFlags := 1537
  interfaces := #[]
  cf := some (fileOf pool4 2 #[] #[] 1537 4 #[] #[])
  fields := #[]
  methods := #[]
  instanceTypes := #[]
  staticTypes := #[]
  resolved := Array.replicate 8 none
  statics := none }

/-- the primitive byte -/
def k5 : Class := { plain "byte" none with kind := .primitive 'B', accessFlags := 0x411 }
/-- [B -/
def k6 : Class := { plain "[B" (some 0) with kind := .array 5 .byte, interfaces := #[3, 4], accessFlags := 1041 }

def heap : Heap := #[]
def classes : Array Class := #[k0, k1, k2, k3, k4, k5, k6]
def interned : List (Array UInt16 × Addr) := []
def slotsUsed : Nat := 0
def theMethod : MethodId := ⟨1, 1⟩
def args0 : Array Value := #[.long 5]
def aboutOver (below : List Frame) : State where
  vm := { classes := classes, interned := interned.toArray }
  heap := heap
  slotsUsed := slotsUsed
  threads := #[{ frames := .invoking theMethod args0 :: below }]
def below0 : List Frame := [.native { method := ⟨0, 0⟩, args := #[] }]
def about1 : State := aboutOver below0
def p0 : Program := .bare "" "" ""
def e0 : Env := launch0.env 0 0 0
theorem w_frames : about1.frames = Frame.invoking theMethod args0 :: below0 := rfl
set_option maxRecDepth 65536 in
theorem w_args : argsFit about1.vm theMethod args0 = true := by decide +kernel
set_option maxRecDepth 65536 in
theorem w_heap : heapFits about1 = true := by decide +kernel
set_option maxRecDepth 65536 in
theorem w_runnable : about1.curStatus? = some .runnable := by decide +kernel
set_option maxRecDepth 65536 in
theorem w_alone : about1.alone = true := by decide +kernel
set_option maxRecDepth 65536 in
theorem w_named : about1.methodNamed? x = some theMethod := by decide +kernel
set_option maxRecDepth 65536 in
theorem w_hears : about1.hears theMethod below0 = true := by decide +kernel
set_option maxRecDepth 65536 in
theorem w_ripe : about1.ripe theMethod args0 below0 = true := by decide +kernel
theorem w_running : about1.status = .running := rfl
set_option maxRecDepth 65536 in
theorem w_room : about1.hasRoom e0.platform room_1 = true :=
  launch0.hasRoom_least _ room_1 (by decide +kernel) (by decide +kernel) (by decide +kernel) (by decide +kernel) (by decide +kernel) (by decide +kernel)
theorem allAtoms_all (ts : List Jvm.Cond) (a : Array Jvm.Value) (st : Jvm.State) : (allAtoms ts).before a st = ts.all (fun c => c.before a st) := by
  induction ts with
  | nil => rfl
  | cons c t ih =>
    show (Jvm.Cond.and c (allAtoms t)).before a st = _
    rw [Jvm.Cond.before_and, ih, List.all_cons]
def words1 : List Jvm.Cond := Jvm.Cond.code x code maxLocals ret :: tables_1
/-- a 'code' word, met by the world's own term for the bytes: nothing is compared byte by byte -/
theorem code_word {y : MethodName} {bytes : ByteArray} {mx : Nat} {rt : Option FieldType} {a : Array Value} {s : State} {m : MethodId} {meth : Method} {c : Code} (h1 : s.methodNamed? y = some m) (h2 : s.vm.method? m = some meth) (h3 : meth.code = some c) (h4 : c.code = bytes)
    (h5 : (c.maxLocals == mx && c.exceptionTable.isEmpty && decide (c.maxStack ≤ mostOperands) && decide (meth.sig.returnType = rt) && !meth.locks && decide (parseMethodDescriptor y.desc = some meth.sig)) = true) : (Jvm.Cond.code y bytes mx rt).before a s = true := by
  simp only [Bool.and_eq_true, beq_iff_eq, Bool.not_eq_true', decide_eq_true_eq] at h5
  obtain ⟨⟨⟨⟨⟨g1, g2⟩, g3⟩, g4⟩, g5⟩, g6⟩ := h5
  simp [Cond.before, Cond.holds, Cond.value, h1, h2, h3, h4, g1, g2, g3, g4, g5, g6]
def isCode : Jvm.Cond → Bool
  | .code _ _ _ _ => true
  | _ => false
theorem all_split {L : List Jvm.Cond} {P : Jvm.Cond → Bool} (h1 : L.all (fun c => isCode c || P c) = true) (h2 : ∀ c ∈ L.filter isCode, P c = true) : L.all P = true := by
  refine List.all_eq_true.mpr fun c hc => ?_
  have h := List.all_eq_true.mp h1 c hc
  rcases Bool.eq_false_or_eq_true (isCode c) with hi | hi
  · exact h2 c (List.mem_filter.mpr ⟨hc, hi⟩)
  · simpa [hi] using h
set_option maxRecDepth 65536 in
theorem w_c0 : (Jvm.Cond.code x code maxLocals ret).before args0 about1 = true := code_word (m := ⟨1, 1⟩) (meth := k1m1) (c := k1c1) (by decide +kernel) rfl rfl rfl (by decide +kernel)
set_option maxRecDepth 65536 in
theorem w_c1 : (Jvm.Cond.code ({ cls := "com/example/nadir/nadir/XxHash64", name := "accumulator", desc := "(JI)J" } : Jvm.MethodName) prog_34_method_5_code (3 : Nat) (Option.some Jvm.ClassFile.FieldType.long)).before args0 about1 = true := code_word (m := ⟨2, 1⟩) (meth := k2m1) (c := k2c1) (by decide +kernel) rfl rfl rfl (by decide +kernel)
def codes1 : List Jvm.Cond := [Jvm.Cond.code x code maxLocals ret, Jvm.Cond.code ({ cls := "com/example/nadir/nadir/XxHash64", name := "accumulator", desc := "(JI)J" } : Jvm.MethodName) prog_34_method_5_code (3 : Nat) (Option.some Jvm.ClassFile.FieldType.long)]
set_option maxRecDepth 65536 in
theorem codes_eq : words1.filter isCode = codes1 := rfl
theorem w_codes : ∀ c ∈ words1.filter isCode, c.before args0 about1 = true := by
  rw [codes_eq]
  intro c hc
  simp only [codes1, List.mem_cons, List.not_mem_nil, or_false] at hc
  rcases hc with rfl | rfl
  · exact w_c0
  · exact w_c1
set_option maxRecDepth 65536 in
theorem w_t1 : words1.all (fun c => isCode c || c.before args0 about1) = true := by decide +kernel
theorem w_tables : (allAtoms (Jvm.Cond.code x code maxLocals ret :: tables_1)).before args0 about1 = true := by
  rw [allAtoms_all]
  show words1.all (fun c => c.before args0 about1) = true
  refine all_split ?_ w_codes
  rw [w_t1]
set_option maxRecDepth 65536 in
theorem w_case : (Jvm.Cond.and given_1 narrow_1).before args0 about1 = true := by decide +kernel
theorem w_applies : (headSpec (Jvm.Cond.code x code maxLocals ret :: tables_1) room_1).applies x e0.platform about1 = true :=
  (Spec.applies_iff w_frames).mpr ⟨w_running, w_runnable, w_alone, w_named, w_hears, w_ripe, w_room, w_tables⟩
theorem atStart : AtStart classFile x code maxLocals ret World_1 tables_1 room_1 Calls_1 rest_1 Pre_1 launch0 p0 e0 about1 theMethod args0 below0 :=
  ⟨lists_1, trivial, launch0.admits_env _ _ _, launch0.least_env, fairChoices_fair.cas, fairChoices_fair.clock, w_frames, w_args, w_heap, w_applies, trivial, trivial, w_case⟩
end start1
theorem witness_1 : WitnessClaimed_1 := ⟨start1.p0, start1.e0, start1.about1, start1.theMethod, start1.args0, start1.below0, start1.atStart⟩
end Jvm.Pilot.@@N@@
