import JvmDerived
import JvmDerived.Pilot.@@N@@Statement
import JvmDerived.Pilot.@@N@@Code
set_option linter.unusedVariables false
set_option linter.unusedSimpArgs false
namespace Jvm.Pilot.@@N@@
open Jvm Jvm.ClassFile Sem Op Lib Jvm.Free Jvm.Stand Jvm.LawKit Jvm.RoadKit Bundle Jvm.Pilot.@@N@@.Jvm.D
/-- from the state U the run comes to the method's end, where Q holds of what it returns, of the heap and of the places written -/
def Dn (p : Program) (e : Env) (below : List Frame) (s : State) (k n : Nat) (Q : Option Value → Heap → List Loc → Prop) (U : State) : Prop :=
  ∃ t o, Steps p.tables e below U t ∧ t.status = .running ∧ Ended t below o ∧ ∃ v L, o = .returned v ∧ Q v t.heap L ∧ FrameEnd s o t L k n
theorem Dn.by {p : Program} {e : Env} {below : List Frame} {s : State} {k n : Nat} {Q : Option Value → Heap → List Loc → Prop} {U U' : State} (st : ∀ t, Steps p.tables e below U' t → Steps p.tables e below U t) (h : Dn p e below s k n Q U') : Dn p e below s k n Q U := by
  obtain ⟨t, o, h1, h2⟩ := h
  exact ⟨t, o, st t h1, h2⟩
theorem Dn.out {p : Program} {l : Launch} {e : Env} {R : Room} {s : State} {m : MethodId} {args : Array Value} {below : List Frame} {meth : Method} {c : Code} {T : State} {locs : List Loc} {cells slots k n : Nat} {Q : Option Value → Heap → List Loc → Prop} {U : State} (X : Stand p l e R s m args below meth c T locs cells slots) {v : Option Value} (hv : meth.sig.returnType = none → v = none) (hlk : meth.locks = false)
    (st : ∀ fs, (∀ (f : JFrame) (acts : List Action), f.method = m → f.locked = none → f.entered = [] → (doReturn e (T.setTop f) acts v).1 = T.setFrames fs) → Steps p.tables e below U (T.setFrames fs)) (hk : cells ≤ k) (hn : slots ≤ n) (hQ : Q v T.heap locs) : Dn p e below s k n Q U := by
  obtain ⟨fs, hr, hrun, hended, hW, hsame⟩ := X.leave (v := v) hv hlk
  exact ⟨_, _, st fs hr, hrun, hended, v, locs, rfl, hQ, ⟨_, rfl⟩, hW, hsame.mono hk hn⟩
theorem pn0 : plainName "formwire/Utf8" = true := by first | (simp [plainName, overriddenIn]; done) | decide +kernel
theorem pn1 : plainName "formwire/Utf8LowestNextPinLaw" = true := by first | (simp [plainName, overriddenIn]; done) | decide +kernel
theorem pd0 : parseMethodDescriptor "(I)I" = some ⟨[.int], some .int⟩ := by decide +kernel
theorem d1_0 : decode prog_32_method_6_code 0 = .ok (.getstatic 50, 3) := by decide +kernel
theorem d1_3 : decode prog_32_method_6_code 3 = .ok (.iload_n 0, 1) := by decide +kernel
theorem d1_4 : decode prog_32_method_6_code 4 = .ok (.iaload, 1) := by decide +kernel
theorem d1_5 : decode prog_32_method_6_code 5 = .ok (.bipush 8, 2) := by decide +kernel
theorem d1_7 : decode prog_32_method_6_code 7 = .ok (.ishr, 1) := by decide +kernel
theorem d1_8 : decode prog_32_method_6_code 8 = .ok (.sipush 255, 3) := by decide +kernel
theorem d1_11 : decode prog_32_method_6_code 11 = .ok (.iand, 1) := by decide +kernel
theorem d1_12 : decode prog_32_method_6_code 12 = .ok (.ireturn, 1) := by decide +kernel
def seqv (j : Int32) : Int32 := if j < (224 : Int32) then 98495 else if j = (224 : Int32) then 172223 else if j < (237 : Int32) then 164031 else if j = (237 : Int32) then 163999 else if j < (240 : Int32) then 164031 else if j = (240 : Int32) then 233663 else if j < (244 : Int32) then 229567 else 229519
def low (j : Int32) : Int32 := ((seqv j >>> ((8 : Int32) &&& 31)) &&& (255 : Int32))
theorem own_low (j : Int32) : low j = if j = (224 : Int32) then 160 else if j = (240 : Int32) then 144 else 128 := by
  unfold low seqv
  by_cases h1 : j = (224 : Int32)
  · subst h1; decide
  by_cases h2 : j = (240 : Int32)
  · subst h2; decide
  rw [if_neg h1, if_neg h2]
  repeat' split
  all_goals first | rfl | contradiction
theorem own_seq (j w : Int32) (hj : 194 ≤ j.toInt ∧ j.toInt ≤ 244) (a3 : j < (194 : Int32) ∨ ¬ j < (224 : Int32) ∨ w = (98495 : Int32)) (a5 : j < (225 : Int32) ∨ ¬ j < (237 : Int32) ∨ w = (164031 : Int32)) (k224 : j = (224 : Int32) → w = (172223 : Int32)) (k237 : j = (237 : Int32) → w = (163999 : Int32)) (k238 : j = (238 : Int32) → w = (164031 : Int32)) (k239 : j = (239 : Int32) → w = (164031 : Int32)) (k240 : j = (240 : Int32) → w = (233663 : Int32)) (k241 : j = (241 : Int32) → w = (229567 : Int32)) (k242 : j = (242 : Int32) → w = (229567 : Int32)) (k243 : j = (243 : Int32) → w = (229567 : Int32)) (k244 : j = (244 : Int32) → w = (229519 : Int32)) : w = seqv j := by
  obtain ⟨l0, l1, l2, l3, l4, l5, l6, l7, l8, l9, l10, l11, l12, l13, l14, l15, l16, l17, l18, l19⟩ : (194 : Int32).toInt = 194 ∧ (224 : Int32).toInt = 224 ∧ (225 : Int32).toInt = 225 ∧ (237 : Int32).toInt = 237 ∧ (238 : Int32).toInt = 238 ∧ (239 : Int32).toInt = 239 ∧ (240 : Int32).toInt = 240 ∧ (241 : Int32).toInt = 241 ∧ (242 : Int32).toInt = 242 ∧ (243 : Int32).toInt = 243 ∧ (244 : Int32).toInt = 244 ∧ (98495 : Int32).toInt = 98495 ∧ (164031 : Int32).toInt = 164031 ∧ (172223 : Int32).toInt = 172223 ∧ (163999 : Int32).toInt = 163999 ∧ (233663 : Int32).toInt = 233663 ∧ (229567 : Int32).toInt = 229567 ∧ (229519 : Int32).toInt = 229519 ∧ (0 : Int32).toInt = 0 ∧ (1 : Int32).toInt = 1 := by decide
  rw [← Int32.toInt_inj]
  unfold seqv
  simp only [Int32.lt_iff_toInt_lt, ← Int32.toInt_inj] at *
  repeat' split
  all_goals omega
abbrev Rm1 : Room := { frames := 0, cells := 0, slots := 0, locals := 0 }
theorem ef_1 (m : MethodId) (p0 : Int32) : entryFrame m #[(.int p0)] 1 = mkF m 0 #[.val (.int p0)] [] := by first | (simp [entryFrame, mkF, argsToLocals, Value.category]; done) | rfl
def Q1 (Z : State) (p0 : Int32) (s_SEQUENCES : Addr) (cl : Cell) (h0 : Heap) (n0 : Nat) (v : Option Value) (h : Heap) (L : List Loc) : Prop := v = some (.int (low p0)) ∧ Fr n0 L ∧ h = h0
set_option maxRecDepth 65536 in
set_option maxHeartbeats 40000000 in
theorem rm1 (l : Launch) (Z : State) (a0 : Array Value) (hw : ∀ d ∈ tables_1, d.before a0 Z = true) (ws : List Jvm.Cond) (p0 : Int32) (s_SEQUENCES : Addr) (cl : Cell) (h0 : Heap) (n0 : Nat) (Z0 : n0 ≤ h0.size) (S_SEQUENCES : Sta Z h0 "formwire/Utf8" "SEQUENCES" "[I" (.ref s_SEQUENCES)) (Ar : Arr Z h0 s_SEQUENCES cl .int) (hin : ¬ (p0 < 0 ∨ cl.slots.size ≤ p0.toNatClampNeg)) (hat : cl.slots[p0.toNatClampNeg]? = some (.int (seqv p0))) :
    MetFree l (⟨"formwire/Utf8", "lowestNext", "(I)I"⟩ : MethodName) (head1 (Jvm.Cond.code (⟨"formwire/Utf8", "lowestNext", "(I)I"⟩ : MethodName) prog_32_method_6_code 1 (some .int) :: ws) Rm1) (fun a U => a = #[(.int p0)] ∧ Z.Warmed39 U.vm ∧ U.heap = h0) (fun _ _ _ _ _ => True) (fun _ U o U' => ∃ v L, o = .returned v ∧ Q1 Z p0 s_SEQUENCES cl h0 n0 v U'.heap L ∧ FrameEnd U o U' L Rm1.cells Rm1.slots) := by
  refine MetFree.of_bodySF (plainFor_of_name pn0) hisR ?_
  intro p e s m args below meth c s₁ Bd hml0 hP hK
  obtain ⟨rfl, hZ, hh⟩ := hP
  have hx := Bd.exec
  have hby := Bd.bytes
  have hml : c.maxLocals = 1 := hml0
  have hown : s.vm.findClass "formwire/Utf8" = some m.cls := findClass_of_methodNamed Bd.named
  have hnm := (name_of_methodNamed Bd.named Bd.method).1
  have X0 : Stand p l e Rm1 s m #[(.int p0)] below meth c s₁ [] 0 0 := Stand.of_body Bd
  have e0 : s₁.heap = h0 := by rw [← hh, Bd.state]; rfl
  have N0 := Fr.nil n0
  show Dn p e below s Rm1.cells Rm1.slots (Q1 Z p0 s_SEQUENCES cl h0 n0) (s₁.setTop (entryFrame m #[(.int p0)] 1))
  rw [ef_1]
  obtain ⟨T1, X1, e1, st1⟩ := getS2 X0 hx hZ (a0 := a0) hown (host := "") (Or.inl (hw _ (List.mem_of_getElem? (i := 5) rfl))) Via.refl e0 S_SEQUENCES (g := (mkF m 0 #[.val (.int p0)] [])) rfl (hb hby d1_0)
  refine Dn.by (U' := T1.setTop (mkF m 3 #[.val (.int p0)] [(.ref s_SEQUENCES)])) st1 ?_
  refine Dn.by (U' := T1.setTop (mkF m 4 #[.val (.int p0)] [(.int p0), (.ref s_SEQUENCES)])) (fun _ k => XS.iloadN X1.here hx rfl (hb hby d1_3) rfl k) ?_
  refine Dn.by (U' := T1.setTop (mkF m 5 #[.val (.int p0)] [(.int (seqv p0))])) (X1.iaload hx (j := p0) (v := (.int (seqv p0))) (by rw [e1]; exact Ar.1) (State.isArrayOf_alike hZ.alike Ar.2.1) Ar.2.2 hin hat (g := (mkF m 4 #[.val (.int p0)] [(.int p0), (.ref s_SEQUENCES)])) rfl rfl (hb hby d1_4)) ?_
  refine Dn.by (U' := T1.setTop (mkF m 7 #[.val (.int p0)] [(.int (8 : Int32)), (.int (seqv p0))])) (fun _ k => XS.bipush X1.here hx rfl (hb hby d1_5)  k) ?_
  refine Dn.by (U' := T1.setTop (mkF m 8 #[.val (.int p0)] [(.int ((seqv p0) >>> ((8 : Int32) &&& 31)))])) (fun _ k => XS.ishr X1.here hx rfl (hb hby d1_7) rfl k) ?_
  refine Dn.by (U' := T1.setTop (mkF m 11 #[.val (.int p0)] [(.int (255 : Int32)), (.int ((seqv p0) >>> ((8 : Int32) &&& 31)))])) (fun _ k => XS.sipush X1.here hx rfl (hb hby d1_8)  k) ?_
  refine Dn.by (U' := T1.setTop (mkF m 12 #[.val (.int p0)] [(.int (((seqv p0) >>> ((8 : Int32) &&& 31)) &&& (255 : Int32)))])) (fun _ k => XS.iand X1.here hx rfl (hb hby d1_11) rfl k) ?_
  refine Dn.out X1 (v := (some (.int (((seqv p0) >>> ((8 : Int32) &&& 31)) &&& (255 : Int32))))) (fun h => by rw [Bd.returns] at h; cases h) (BodyLoose.notSynchronized Bd) (fun _ hr => retOut X1 hx Bd.returns rfl (Or.inl ⟨rfl, Or.inl rfl, _, rfl⟩) (hb hby d1_12) hr) (by decide) (by decide) ?_
  rw [e1]
  exact ⟨rfl, N0, rfl⟩
theorem ef_0 (m : MethodId) (p0 : Int32) : entryFrame m #[(.int p0)] maxLocals = mkF m 0 #[.val (.int p0), .unset, .unset] [] := by first | (simp [entryFrame, mkF, argsToLocals, Value.category, maxLocals]; done) | rfl
def Q0 (Z : State) (p0 : Int32) (sq : Addr) (cl : Cell) (h0 : Heap) (n0 : Nat) (v : Option Value) (h : Heap) (L : List Loc) : Prop := v = some (.int 1) ∧ Fr n0 L
set_option maxRecDepth 65536 in
set_option maxHeartbeats 40000000 in
theorem rm0 (l : Launch) (Z : State) (a0 : Array Value) (hw : ∀ d ∈ tables_1, d.before a0 Z = true) (ws : List Jvm.Cond) (p0 : Int32) (sq : Addr) (cl : Cell) (h0 : Heap) (n0 : Nat) (Z0 : n0 ≤ h0.size) (S_sq : Sta Z h0 "formwire/Utf8" "SEQUENCES" "[I" (.ref sq)) (Ar : Arr Z h0 sq cl .int) (hin : ∀ j : Int32, 194 ≤ j.toInt ∧ j.toInt ≤ 244 → ¬ (j < 0 ∨ cl.slots.size ≤ j.toNatClampNeg)) (hat : ∀ j : Int32, 194 ≤ j.toInt ∧ j.toInt ≤ 244 → cl.slots[j.toNatClampNeg]? = some (.int (seqv j))) :
    MetFree l x (head1 (Jvm.Cond.code x code maxLocals ret :: ws) room_1) (fun a U => a = #[(.int p0)] ∧ Z.Warmed39 U.vm ∧ U.heap = h0) (fun _ _ _ _ _ => True) (fun _ U o U' => ∃ v L, o = .returned v ∧ Q0 Z p0 sq cl h0 n0 v U'.heap L ∧ FrameEnd U o U' L 0 0) := by
  refine MetFree.of_bodySF (plainFor_of_name pn1) hisR ?_
  intro p e s m args below meth c s₁ Bd hml0 hP hK
  obtain ⟨rfl, hZ, hh⟩ := hP
  have hx := Bd.exec
  have hby := Bd.bytes
  have hml : c.maxLocals = 3 := hml0
  have hown : s.vm.findClass "formwire/Utf8LowestNextPinLaw" = some m.cls := findClass_of_methodNamed Bd.named
  have hnm := (name_of_methodNamed Bd.named Bd.method).1
  have X0 : Stand p l e room_1 s m #[(.int p0)] below meth c s₁ [] 0 0 := Stand.of_body Bd
  have e0 : s₁.heap = h0 := by rw [← hh, Bd.state]; rfl
  have N0 := Fr.nil n0
  show Dn p e below s 0 0 (Q0 Z p0 sq cl h0 n0) (s₁.setTop (entryFrame m #[(.int p0)] maxLocals))
  rw [ef_0]
  refine Dn.by (U' := s₁.setTop (mkF m 3 #[.val (.int p0), .unset, .unset] [(.int (194 : Int32))])) (fun _ k => XS.sipush X0.here hx rfl (hb hby at_0)  k) ?_
  refine Dn.by (U' := s₁.setTop (mkF m 4 #[.val (.int p0), .unset, .unset] [(.int p0), (.int (194 : Int32))])) (fun _ k => XS.iloadN X0.here hx rfl (hb hby at_3) rfl k) ?_
  refine Dn.by (U' := s₁.setTop (mkF m 6 #[.val (.int p0), .unset, .unset] [(.int (2147483647 : Int32)), (.int p0), (.int (194 : Int32))])) (X0.ldcInt hx hown (mvT hZ (hw _ (List.mem_of_getElem? (i := 0) rfl))) (g := (mkF m 4 #[.val (.int p0), .unset, .unset] [(.int p0), (.int (194 : Int32))])) rfl (hb hby at_4)) ?_
  refine Dn.by (U' := s₁.setTop (mkF m 7 #[.val (.int p0), .unset, .unset] [(.int (p0 &&& (2147483647 : Int32))), (.int (194 : Int32))])) (fun _ k => XS.iand X0.here hx rfl (hb hby at_6) rfl k) ?_
  refine Dn.by (U' := s₁.setTop (mkF m 9 #[.val (.int p0), .unset, .unset] [(.int (51 : Int32)), (.int (p0 &&& (2147483647 : Int32))), (.int (194 : Int32))])) (fun _ k => XS.bipush X0.here hx rfl (hb hby at_7)  k) ?_
  refine Dn.by (U' := s₁.setTop (mkF m 10 #[.val (.int p0), .unset, .unset] [(.int ((p0 &&& (2147483647 : Int32)) % (51 : Int32))), (.int (194 : Int32))])) (fun _ k => iremM X0 hx rfl (hb hby at_9) rfl (by decide) k) ?_
  refine Dn.by (U' := s₁.setTop (mkF m 11 #[.val (.int p0), .unset, .unset] [(.int ((194 : Int32) + ((p0 &&& (2147483647 : Int32)) % (51 : Int32))))])) (fun _ k => XS.iadd X0.here hx rfl (hb hby at_10) rfl k) ?_
  have hld : 194 ≤ ((194 : Int32) + ((p0 &&& (2147483647 : Int32)) % (51 : Int32))).toInt ∧ ((194 : Int32) + ((p0 &&& (2147483647 : Int32)) % (51 : Int32))).toInt ≤ 244 := by
    have u0 := (by decide : (194 : Int32).toInt = 194)
    have u1 := rng32 p0
    have u2 := (by decide : (2147483647 : Int32).toInt = 2147483647)
    have u3 := rng32 (p0 &&& (2147483647 : Int32))
    have u4 := c_mask p0 (2147483647 : Int32) 31 (by decide) (by decide)
    have u5 := (by decide : (51 : Int32).toInt = 51)
    have u6 := rng32 ((p0 &&& (2147483647 : Int32)) % (51 : Int32))
    have u7 := c_irem (p0 &&& (2147483647 : Int32)) (51 : Int32) 51 (by decide)
    have u8 := rng32 ((194 : Int32) + ((p0 &&& (2147483647 : Int32)) % (51 : Int32)))
    have u9 := c_iadd (194 : Int32) ((p0 &&& (2147483647 : Int32)) % (51 : Int32))
    omega
  generalize h_lead : ((194 : Int32) + ((p0 &&& (2147483647 : Int32)) % (51 : Int32))) = lead at hld ⊢
  refine Dn.by (U' := s₁.setTop (mkF m 12 #[.val (.int p0), .val (.int lead), .unset] [])) (fun _ k => XS.istoreN X0.here hx rfl (hb hby at_11) rfl (l' := #[.val (.int p0), .val (.int lead), .unset]) rfl k) ?_
  refine Dn.by (U' := s₁.setTop (mkF m 13 #[.val (.int p0), .val (.int lead), .unset] [(.int lead)])) (fun _ k => XS.iloadN X0.here hx rfl (hb hby at_12) rfl k) ?_
  refine Dn.by (U' := s₁.setTop (mkF m 16 #[.val (.int p0), .val (.int lead), .unset] [(.int (224 : Int32)), (.int lead)])) (fun _ k => XS.sipush X0.here hx rfl (hb hby at_13)  k) ?_
  by_cases c16_1 : lead = (224 : Int32)
  ·
    refine Dn.by (U' := s₁.setTop (mkF m 19 #[.val (.int p0), .val (.int lead), .unset] [])) (fun _ k => XS.icmpNo X0.here hx rfl (hb hby at_16) rfl (teq c16_1).2 k) ?_
    refine Dn.by (U' := s₁.setTop (mkF m 22 #[.val (.int p0), .val (.int lead), .unset] [(.int (160 : Int32))])) (fun _ k => XS.sipush X0.here hx rfl (hb hby at_19)  k) ?_
    refine Dn.by (U' := s₁.setTop (mkF m 23 #[.val (.int p0), .val (.int lead), .val (.int (160 : Int32))] [])) (fun _ k => XS.istoreN X0.here hx rfl (hb hby at_22) rfl (l' := #[.val (.int p0), .val (.int lead), .val (.int (160 : Int32))]) rfl k) ?_
    refine Dn.by (U' := s₁.setTop (mkF m 44 #[.val (.int p0), .val (.int lead), .val (.int (160 : Int32))] [])) (fun _ k => XS.goto X0.here hx rfl (pc0 := 23) (pc' := 44) rfl (hb hby at_23) (by decide) (by decide) k) ?_
    refine Dn.by (U' := s₁.setTop (mkF m 45 #[.val (.int p0), .val (.int lead), .val (.int (160 : Int32))] [(.int lead)])) (fun _ k => XS.iloadN X0.here hx rfl (hb hby at_44) rfl k) ?_
    obtain ⟨_, _, ⟨T2, L2, k2, n2⟩, -, X2, ⟨Lc2, hQ2, l2, y2, z2⟩, st2⟩ := Jvm.LawKit.callS X0 hx (y := (⟨"formwire/Utf8", "lowestNext", "(I)I"⟩ : MethodName)) hown (mvT hZ (hw _ (List.mem_of_getElem? (i := 1) rfl))) (mvT hZ (hw _ (List.mem_of_getElem? (i := 2) rfl))) (mvT hZ (hw _ (List.mem_of_getElem? (i := 3) rfl))) (mvT hZ (hw _ (List.mem_of_getElem? (i := 4) rfl))) (by decide) (backOf (W := 0) (rm1 l Z a0 hw [] lead sq cl h0 n0 Z0 S_sq Ar (hin lead hld) (hat lead hld)) hZ (hw _ (List.mem_of_getElem? (i := 4) rfl)) (hw _ (List.mem_of_getElem? (i := 3) rfl)) (by decide) (by decide)) (g := (mkF m 45 #[.val (.int p0), .val (.int lead), .val (.int (160 : Int32))] [(.int lead)])) rfl (by rw [hml]; rfl) (argsL := [(.int lead)]) (rest := []) (lenOf pd0 rfl) rfl (by show 2 * 0 + _ ≤ _; exact Nat.le_of_eq rfl) (hb hby at_45) (fun _ _ => ⟨rfl, e0, (by decide : 0 + 0 ≤ _), (by decide : 0 + 0 ≤ _)⟩)
    dsimp only [Pt.U, Pt.locs, Pt.cells, Pt.slots] at X2 l2 y2 z2 st2 hQ2
    subst l2 y2 z2
    obtain ⟨rfl, N2q, e2⟩ := hQ2
    have N2 := Fr.app N0 N2q
    refine Dn.by (U' := T2.setTop (mkF m 48 #[.val (.int p0), .val (.int lead), .val (.int (160 : Int32))] [(.int (low lead))])) st2 ?_
    refine Dn.by (U' := T2.setTop (mkF m 49 #[.val (.int p0), .val (.int lead), .val (.int (160 : Int32))] [(.int (160 : Int32)), (.int (low lead))])) (fun _ k => XS.iloadN X2.here hx rfl (hb hby at_48) rfl k) ?_
    refine Dn.by (U' := T2.setTop (mkF m 52 #[.val (.int p0), .val (.int lead), .val (.int (160 : Int32))] [])) (fun _ k => XS.icmpNo X2.here hx rfl (hb hby at_49) rfl (teq ((own_low lead).trans (if_pos c16_1))).2 k) ?_
    refine Dn.by (U' := T2.setTop (mkF m 53 #[.val (.int p0), .val (.int lead), .val (.int (160 : Int32))] [(.int (1 : Int32))])) (fun _ k => XS.iconst X2.here hx rfl (hb hby at_52)  k) ?_
    refine Dn.by (U' := T2.setTop (mkF m 57 #[.val (.int p0), .val (.int lead), .val (.int (160 : Int32))] [(.int (1 : Int32))])) (fun _ k => XS.goto X2.here hx rfl (pc0 := 53) (pc' := 57) rfl (hb hby at_53) (by decide) (by decide) k) ?_
    refine Dn.out X2 (v := (some (.int (1 : Int32)))) (fun h => by rw [Bd.returns] at h; cases h) (BodyLoose.notSynchronized Bd) (fun _ hr => retN X2 hx (t := .boolean) Bd.returns (by simp) (hb hby at_57) hr) (by decide) (by decide) ?_
    rw [e2]
    exact ⟨rfl, N2⟩
  ·
    refine Dn.by (U' := s₁.setTop (mkF m 26 #[.val (.int p0), .val (.int lead), .unset] [])) (fun _ k => XS.icmpYes X0.here hx rfl (pc0 := 16) (pc' := 26) rfl (hb hby at_16) rfl (feq c16_1).2 (by decide) (by decide) k) ?_
    refine Dn.by (U' := s₁.setTop (mkF m 27 #[.val (.int p0), .val (.int lead), .unset] [(.int lead)])) (fun _ k => XS.iloadN X0.here hx rfl (hb hby at_26) rfl k) ?_
    refine Dn.by (U' := s₁.setTop (mkF m 30 #[.val (.int p0), .val (.int lead), .unset] [(.int (240 : Int32)), (.int lead)])) (fun _ k => XS.sipush X0.here hx rfl (hb hby at_27)  k) ?_
    by_cases c30_3 : lead = (240 : Int32)
    ·
      refine Dn.by (U' := s₁.setTop (mkF m 33 #[.val (.int p0), .val (.int lead), .unset] [])) (fun _ k => XS.icmpNo X0.here hx rfl (hb hby at_30) rfl (teq c30_3).2 k) ?_
      refine Dn.by (U' := s₁.setTop (mkF m 36 #[.val (.int p0), .val (.int lead), .unset] [(.int (144 : Int32))])) (fun _ k => XS.sipush X0.here hx rfl (hb hby at_33)  k) ?_
      refine Dn.by (U' := s₁.setTop (mkF m 37 #[.val (.int p0), .val (.int lead), .val (.int (144 : Int32))] [])) (fun _ k => XS.istoreN X0.here hx rfl (hb hby at_36) rfl (l' := #[.val (.int p0), .val (.int lead), .val (.int (144 : Int32))]) rfl k) ?_
      refine Dn.by (U' := s₁.setTop (mkF m 44 #[.val (.int p0), .val (.int lead), .val (.int (144 : Int32))] [])) (fun _ k => XS.goto X0.here hx rfl (pc0 := 37) (pc' := 44) rfl (hb hby at_37) (by decide) (by decide) k) ?_
      refine Dn.by (U' := s₁.setTop (mkF m 45 #[.val (.int p0), .val (.int lead), .val (.int (144 : Int32))] [(.int lead)])) (fun _ k => XS.iloadN X0.here hx rfl (hb hby at_44) rfl k) ?_
      obtain ⟨_, _, ⟨T4, L4, k4, n4⟩, -, X4, ⟨Lc4, hQ4, l4, y4, z4⟩, st4⟩ := Jvm.LawKit.callS X0 hx (y := (⟨"formwire/Utf8", "lowestNext", "(I)I"⟩ : MethodName)) hown (mvT hZ (hw _ (List.mem_of_getElem? (i := 1) rfl))) (mvT hZ (hw _ (List.mem_of_getElem? (i := 2) rfl))) (mvT hZ (hw _ (List.mem_of_getElem? (i := 3) rfl))) (mvT hZ (hw _ (List.mem_of_getElem? (i := 4) rfl))) (by decide) (backOf (W := 0) (rm1 l Z a0 hw [] lead sq cl h0 n0 Z0 S_sq Ar (hin lead hld) (hat lead hld)) hZ (hw _ (List.mem_of_getElem? (i := 4) rfl)) (hw _ (List.mem_of_getElem? (i := 3) rfl)) (by decide) (by decide)) (g := (mkF m 45 #[.val (.int p0), .val (.int lead), .val (.int (144 : Int32))] [(.int lead)])) rfl (by rw [hml]; rfl) (argsL := [(.int lead)]) (rest := []) (lenOf pd0 rfl) rfl (by show 2 * 0 + _ ≤ _; exact Nat.le_of_eq rfl) (hb hby at_45) (fun _ _ => ⟨rfl, e0, (by decide : 0 + 0 ≤ _), (by decide : 0 + 0 ≤ _)⟩)
      dsimp only [Pt.U, Pt.locs, Pt.cells, Pt.slots] at X4 l4 y4 z4 st4 hQ4
      subst l4 y4 z4
      obtain ⟨rfl, N4q, e4⟩ := hQ4
      have N4 := Fr.app N0 N4q
      refine Dn.by (U' := T4.setTop (mkF m 48 #[.val (.int p0), .val (.int lead), .val (.int (144 : Int32))] [(.int (low lead))])) st4 ?_
      refine Dn.by (U' := T4.setTop (mkF m 49 #[.val (.int p0), .val (.int lead), .val (.int (144 : Int32))] [(.int (144 : Int32)), (.int (low lead))])) (fun _ k => XS.iloadN X4.here hx rfl (hb hby at_48) rfl k) ?_
      refine Dn.by (U' := T4.setTop (mkF m 52 #[.val (.int p0), .val (.int lead), .val (.int (144 : Int32))] [])) (fun _ k => XS.icmpNo X4.here hx rfl (hb hby at_49) rfl (teq ((own_low lead).trans ((if_neg c16_1).trans (if_pos c30_3)))).2 k) ?_
      refine Dn.by (U' := T4.setTop (mkF m 53 #[.val (.int p0), .val (.int lead), .val (.int (144 : Int32))] [(.int (1 : Int32))])) (fun _ k => XS.iconst X4.here hx rfl (hb hby at_52)  k) ?_
      refine Dn.by (U' := T4.setTop (mkF m 57 #[.val (.int p0), .val (.int lead), .val (.int (144 : Int32))] [(.int (1 : Int32))])) (fun _ k => XS.goto X4.here hx rfl (pc0 := 53) (pc' := 57) rfl (hb hby at_53) (by decide) (by decide) k) ?_
      refine Dn.out X4 (v := (some (.int (1 : Int32)))) (fun h => by rw [Bd.returns] at h; cases h) (BodyLoose.notSynchronized Bd) (fun _ hr => retN X4 hx (t := .boolean) Bd.returns (by simp) (hb hby at_57) hr) (by decide) (by decide) ?_
      rw [e4]
      exact ⟨rfl, N4⟩
    ·
      refine Dn.by (U' := s₁.setTop (mkF m 40 #[.val (.int p0), .val (.int lead), .unset] [])) (fun _ k => XS.icmpYes X0.here hx rfl (pc0 := 30) (pc' := 40) rfl (hb hby at_30) rfl (feq c30_3).2 (by decide) (by decide) k) ?_
      refine Dn.by (U' := s₁.setTop (mkF m 43 #[.val (.int p0), .val (.int lead), .unset] [(.int (128 : Int32))])) (fun _ k => XS.sipush X0.here hx rfl (hb hby at_40)  k) ?_
      refine Dn.by (U' := s₁.setTop (mkF m 44 #[.val (.int p0), .val (.int lead), .val (.int (128 : Int32))] [])) (fun _ k => XS.istoreN X0.here hx rfl (hb hby at_43) rfl (l' := #[.val (.int p0), .val (.int lead), .val (.int (128 : Int32))]) rfl k) ?_
      refine Dn.by (U' := s₁.setTop (mkF m 45 #[.val (.int p0), .val (.int lead), .val (.int (128 : Int32))] [(.int lead)])) (fun _ k => XS.iloadN X0.here hx rfl (hb hby at_44) rfl k) ?_
      obtain ⟨_, _, ⟨T5, L5, k5, n5⟩, -, X5, ⟨Lc5, hQ5, l5, y5, z5⟩, st5⟩ := Jvm.LawKit.callS X0 hx (y := (⟨"formwire/Utf8", "lowestNext", "(I)I"⟩ : MethodName)) hown (mvT hZ (hw _ (List.mem_of_getElem? (i := 1) rfl))) (mvT hZ (hw _ (List.mem_of_getElem? (i := 2) rfl))) (mvT hZ (hw _ (List.mem_of_getElem? (i := 3) rfl))) (mvT hZ (hw _ (List.mem_of_getElem? (i := 4) rfl))) (by decide) (backOf (W := 0) (rm1 l Z a0 hw [] lead sq cl h0 n0 Z0 S_sq Ar (hin lead hld) (hat lead hld)) hZ (hw _ (List.mem_of_getElem? (i := 4) rfl)) (hw _ (List.mem_of_getElem? (i := 3) rfl)) (by decide) (by decide)) (g := (mkF m 45 #[.val (.int p0), .val (.int lead), .val (.int (128 : Int32))] [(.int lead)])) rfl (by rw [hml]; rfl) (argsL := [(.int lead)]) (rest := []) (lenOf pd0 rfl) rfl (by show 2 * 0 + _ ≤ _; exact Nat.le_of_eq rfl) (hb hby at_45) (fun _ _ => ⟨rfl, e0, (by decide : 0 + 0 ≤ _), (by decide : 0 + 0 ≤ _)⟩)
      dsimp only [Pt.U, Pt.locs, Pt.cells, Pt.slots] at X5 l5 y5 z5 st5 hQ5
      subst l5 y5 z5
      obtain ⟨rfl, N5q, e5⟩ := hQ5
      have N5 := Fr.app N0 N5q
      refine Dn.by (U' := T5.setTop (mkF m 48 #[.val (.int p0), .val (.int lead), .val (.int (128 : Int32))] [(.int (low lead))])) st5 ?_
      refine Dn.by (U' := T5.setTop (mkF m 49 #[.val (.int p0), .val (.int lead), .val (.int (128 : Int32))] [(.int (128 : Int32)), (.int (low lead))])) (fun _ k => XS.iloadN X5.here hx rfl (hb hby at_48) rfl k) ?_
      refine Dn.by (U' := T5.setTop (mkF m 52 #[.val (.int p0), .val (.int lead), .val (.int (128 : Int32))] [])) (fun _ k => XS.icmpNo X5.here hx rfl (hb hby at_49) rfl (teq ((own_low lead).trans ((if_neg c16_1).trans (if_neg c30_3)))).2 k) ?_
      refine Dn.by (U' := T5.setTop (mkF m 53 #[.val (.int p0), .val (.int lead), .val (.int (128 : Int32))] [(.int (1 : Int32))])) (fun _ k => XS.iconst X5.here hx rfl (hb hby at_52)  k) ?_
      refine Dn.by (U' := T5.setTop (mkF m 57 #[.val (.int p0), .val (.int lead), .val (.int (128 : Int32))] [(.int (1 : Int32))])) (fun _ k => XS.goto X5.here hx rfl (pc0 := 53) (pc' := 57) rfl (hb hby at_53) (by decide) (by decide) k) ?_
      refine Dn.out X5 (v := (some (.int (1 : Int32)))) (fun h => by rw [Bd.returns] at h; cases h) (BodyLoose.notSynchronized Bd) (fun _ hr => retN X5 hx (t := .boolean) Bd.returns (by simp) (hb hby at_57) hr) (by decide) (by decide) ?_
      rw [e5]
      exact ⟨rfl, N5⟩
set_option maxRecDepth 65536 in
set_option maxHeartbeats 40000000 in
theorem comes_1 {Post : Tables → Env → Array Value → State → Outcome → State → Prop} (hpost : ∀ tb e args s v u, (limb_1_1.after args s (.returned v) u = true ∧ limb_1_2.after args s (.returned v) u = true ∧ True) → FrameEnd s (.returned v) u (Jvm.fieldLocs frame_1_writes args s ++ Jvm.arrayLocs frame_1_arrays args s ++ Jvm.staticLocs frame_1_statics s) 0 0 → Post tb e args s (.returned v) u) :
    ArmFor flags0 classFile x code maxLocals ret World_1 tables_1 room_1 Calls_1 rest_1 Pre_1 Post := by
  intro l hfl _ _ p e ha hc hk s m args below hf hA hF happ hP
  obtain ⟨hcalls, hrest, hpre⟩ := hP
  obtain ⟨-, -, -, hnamed, -, -, -, hat⟩ := (Spec.applies_iff hf).mp happ
  obtain ⟨hg, hn⟩ := and_e (Cond.before_iff.mp (show (Jvm.Cond.and given_1 narrow_1).before args s = true from hpre))
  obtain ⟨gg1, gg2⟩ := and_e hg
  obtain ⟨w0, rfl⟩ : ∃ w0 : Value, args = #[w0] := by
    have hs : args.size = 1 := by simpa [Cond.value, given_1] using gg1
    obtain ⟨L⟩ := args
    match L, hs with
    | [w0], _ => exact ⟨w0, rfl⟩
  have hw := fun d (hd : d ∈ tables_1) => atoms_spec (ws := Jvm.Cond.code x code maxLocals ret :: tables_1) hat d (List.mem_cons_of_mem _ hd)
  have hfit : Fit s := fun {y c} hc i hi => by
    obtain ⟨ha, rfl⟩ := Array.getElem?_eq_some_iff.mp hc
    have q := List.all_eq_true.mp ((Array.all_eq_true_iff_forall_mem.mp hF) _ (Array.getElem_mem ha)) i (List.mem_range.mpr hi)
    simpa [Array.getElem?_eq_getElem hi] using q
  obtain ⟨i0, ei0⟩ := is_v gg2
  obtain rfl : w0 = (.int i0) := Option.some.inj ei0
  obtain ⟨x1, hn⟩ := and_e hn
  obtain ⟨x2, hn⟩ := and_e hn
  obtain ⟨x3, hn⟩ := and_e hn
  obtain ⟨x4, hn⟩ := and_e hn
  obtain ⟨x5, hn⟩ := and_e hn
  obtain ⟨x6, hn⟩ := and_e hn
  obtain ⟨x7, hn⟩ := and_e hn
  obtain ⟨x8, hn⟩ := and_e hn
  obtain ⟨x9, hn⟩ := and_e hn
  obtain ⟨x10, hn⟩ := and_e hn
  obtain ⟨x11, hn⟩ := and_e hn
  obtain ⟨x12, hn⟩ := and_e hn
  obtain ⟨x13, hn⟩ := and_e hn
  obtain ⟨x14, hn⟩ := and_e hn
  have x15 := hn
  obtain ⟨sq, ev⟩ := arr_v x1
  have et : ∀ idx, (Jvm.Term.static "formwire/Utf8" "SEQUENCES" "[I").eval #[.int i0] s none idx s = some (.ref sq) := fun _ => ev
  obtain ⟨cl, Ar⟩ := Arr.start ev x1
  have S_sq := Sta.start ev (Or.inr ⟨(hw _ (List.mem_of_getElem? (i := 3) rfl)), (hw _ (List.mem_of_getElem? (i := 6) rfl))⟩)
  have hca := Ar.fin (Vm.Alike.refl _)
  have ll := eqv_i (Term.int_eval (256)) x2
  obtain ⟨b', cl', eb, ec, hsz, hv⟩ := Jvm.Lib.length_spec ll
  obtain rfl : sq = b' := Value.ref.inj (Option.some.inj (ev.symm.trans eb))
  obtain rfl : cl = cl' := Option.some.inj (hca.symm.trans ec)
  have hsz2 : cl.slots.size.toInt32 = 256 := (Value.int.inj hv).symm
  have TT := Tab.start hfit Ar (Or.inl rfl) hsz hsz2 (by decide)
  have hin : ∀ j : Int32, 194 ≤ j.toInt ∧ j.toInt ≤ 244 → ¬ (j < 0 ∨ cl.slots.size ≤ j.toNatClampNeg) := fun j hj => inb_of TT.2.1 ⟨fun q => by have q' := Int32.lt_iff_toInt_lt.mp q; have l0 : (0 : Int32).toInt = 0 := (by decide); omega, Int32.lt_iff_toInt_lt.mpr (by have l : (256 : Int32).toInt = 256 := (by decide); omega)⟩
  have hat : ∀ j : Int32, 194 ≤ j.toInt ∧ j.toInt ≤ 244 → cl.slots[j.toNatClampNeg]? = some (.int (seqv j)) := fun j hj => by
    have hi := hin j hj
    have nn : ¬ j < 0 := fun q => hi (Or.inl q)
    have hlt : j.toNatClampNeg < cl.slots.size := Nat.lt_of_not_le fun q => hi (Or.inr q)
    have e0 := TT.2.2.2 j hi
    have ee : (Jvm.Term.elem (Jvm.Term.static "formwire/Utf8" "SEQUENCES" "[I") (Jvm.Term.index 0)).eval #[.int i0] s none [j.toNatClampNeg] s = some (.int (atv cl j)) := (elem_f (et _) (idx_at nn) hca nn).trans e0
    have ek : ∀ (k : Int32) (v : Int32), ¬ k < 0 → (Jvm.Cond.eq (Jvm.Term.elem (Jvm.Term.static "formwire/Utf8" "SEQUENCES" "[I") (Jvm.Term.int k)) (Jvm.Term.int v)).value #[.int i0] s none s [] = some true → j = k → atv cl j = v := fun k v hk hq e => by
      subst e
      have q1 := eqv_i (Term.int_eval v) hq
      have q2 := (elem_f (et []) (Term.int_eval j) hca hk).symm.trans q1
      exact atv_of q2
    have a3 := or3 (Cond.all_elim (et []) hca x4 j.toNatClampNeg hlt) (Cond.lt_ints (idx_at nn) (Term.int_eval _)) (Cond.le_ints (Term.int_eval _) (idx_at nn)) (Cond.eq_ints ee (Term.int_eval _))
    have a5 := or3 (Cond.all_elim (et []) hca x6 j.toNatClampNeg hlt) (Cond.lt_ints (idx_at nn) (Term.int_eval _)) (Cond.le_ints (Term.int_eval _) (idx_at nn)) (Cond.eq_ints ee (Term.int_eval _))
    have k224 := ek 224 172223 (by decide) x5
    have k237 := ek 237 163999 (by decide) x7
    have k238 := ek 238 164031 (by decide) x8
    have k239 := ek 239 164031 (by decide) x9
    have k240 := ek 240 233663 (by decide) x10
    have k241 := ek 241 229567 (by decide) x11
    have k242 := ek 242 229567 (by decide) x12
    have k243 := ek 243 229567 (by decide) x13
    have k244 := ek 244 229519 (by decide) x14
    rw [e0]
    exact congrArg (fun z => some (Value.int z)) (own_seq j _ hj a3 a5 k224 k237 k238 k239 k240 k241 k242 k243 k244)
  obtain ⟨n, o, h1, h2, h3, _, L, rfl, ⟨rfl, N⟩, hq⟩ := rm0 l s _ hw tables_1 i0 sq cl s.heap s.heap.size (Nat.le_refl _) S_sq Ar hin hat p e ha hc hk s m _ below hf ((Spec.applies_iff_loose hf).mp happ).1 ⟨rfl, State.Warmed39.refl s, rfl⟩ trivial
  refine ⟨n, _, h1, h2, h3, hpost _ _ _ _ _ _ ⟨Cond.after_iff.mpr rfl, Cond.after_iff.mpr (eq_i res_at (Term.int_eval (1)) rfl), trivial⟩ ⟨hq.1, hq.2.1, (hq.2.2.sift fun y hy => Or.inr (N y hy)).mono (by decide) (by decide)⟩⟩
theorem main_1_1 : Claimed_1_1 := comes_1 fun _ _ _ _ _ _ h hF => ⟨h.1, hF⟩
theorem main_1_2 : Claimed_1_2 := comes_1 fun _ _ _ _ _ _ h hF => ⟨h.2.1, hF⟩
end Jvm.Pilot.@@N@@
namespace Jvm.Pilot.@@N@@
open Jvm Jvm.ClassFile Sem Op Lib Jvm.Free Jvm.Stand Jvm.Pilot.@@N@@.Jvm.D
/-! MADE BY PROGRAM (witnessworld.py) out of the Statement's table words and the real class files: 9 classes; the members and pool entries that the words name. The judged class is class 1, her method 1. -/
namespace start1
open Jvm.ClassFile
def u (s : String) : CpInfo := .utf8 (stringToUtf16 s)
/-- a pool by its gaps: so many unusable entries, then the entry; so many at the end -/
def gap : Nat → List CpInfo → List CpInfo
  | 0, r => r
  | n + 1, r => .unusable :: gap n r
def poolList (es : List (Nat × CpInfo)) (last : Nat) : List CpInfo := es.foldr (fun e r => gap e.1 (e.2 :: r)) (gap last [])
def pool (es : List (Nat × CpInfo)) (last : Nat) : Array CpInfo := ⟨poolList es last⟩
def fileOf (pool : Array CpInfo) (this : Nat) (attrs : Array Attribute := #[]) (ms : Array MethodInfo := #[]) (fl : Nat := 33) (sup : Nat := 0) (ifs : Array Nat := #[]) (fds : Array FieldInfo := #[]) : ClassFile where
  minorVersion := 0
  majorVersion := 65
  constantPool := pool
  accessFlags := fl
  thisClass := this
  superClass := sup
  interfaces := ifs
  fields := fds
  methods := ms
  attributes := attrs
def plain (name : String) (sup : Option ClassId) : Class where
  name := name
  kind := .ordinary
  loader := none
  accessFlags := 33
  super := sup
  interfaces := #[]
  cf := none
  fields := #[]
  methods := #[]
  instanceTypes := #[]
  staticTypes := #[]
  resolved := #[]
  callSites := []
  init := .initialized
  statics := none
  mirror := none

def pool0 : Array CpInfo := pool [(5, u "<init>"), (0, u "()V"), (1, .class_ 10), (1, u "java/lang/Object")] 113

def k0m0 : Method := { name := "<init>", desc := "()V", sig := { parameters := [], returnType := none }, accessFlags := 1, code := none }
/-- java/lang/Object -/
def k0 : Class := { plain "java/lang/Object" none with
  accessFlags := 33
  interfaces := #[]
  cf := some (fileOf pool0 8 #[] #[{ accessFlags := 1, nameIndex := 5, descriptorIndex := 6, attributes := #[] }] 33 0 #[] #[])
  fields := #[]
  methods := #[k0m0]
  instanceTypes := #[]
  staticTypes := #[]
  resolved := Array.replicate 124 none
  statics := none }

def pool1 : Array CpInfo := pool [(2, .class_ 4), (1, u "java/lang/Object"), (0, u "<init>"), (0, u "()V"), (0, .integer 2147483647), (0, .methodref 9 10), (0, .class_ 11), (0, .nameAndType 12 13), (0, u "formwire/Utf8"), (0, u "lowestNext"), (0, u "(I)I"), (0, .class_ 15), (0, u "formwire/Utf8LowestNextPinLaw"), (2, u "law"), (0, u "(I)Z")] 3

def k1m0 : Method := { name := "<init>", desc := "()V", sig := { parameters := [], returnType := none }, accessFlags := 2, code := none }
def k1c1 : Code := { maxStack := 3, maxLocals := 3, code := code, exceptionTable := #[], attributes := #[] }
def k1m1 : Method := { name := "law", desc := "(I)Z", sig := { parameters := [.int], returnType := some .boolean }, accessFlags := 9, code := some k1c1 }
/-- formwire/Utf8LowestNextPinLaw -/
def k1 : Class := { plain "formwire/Utf8LowestNextPinLaw" (some 0) with
  accessFlags := 49
  interfaces := #[]
  cf := some (fileOf pool1 14 #[] #[{ accessFlags := 2, nameIndex := 5, descriptorIndex := 6, attributes := #[] }, { accessFlags := 9, nameIndex := 18, descriptorIndex := 19, attributes := #[] }] 49 2 #[] #[])
  fields := #[]
  methods := #[k1m0, k1m1]
  instanceTypes := #[]
  staticTypes := #[]
  resolved := Array.replicate 23 none
  statics := none }

def pool2 : Array CpInfo := pool [(2, .class_ 4), (1, u "java/lang/Object"), (0, u "<init>"), (0, u "()V"), (1, .class_ 10), (1, u "formwire/Utf8"), (5, u "(I)I"), (9, u "lowestNext"), (23, .fieldref 8 51), (0, .nameAndType 52 53), (0, u "SEQUENCES"), (0, u "[I"), (10, u "REPLACEMENT"), (0, u "C")] 15

def k2m0 : Method := { name := "<init>", desc := "()V", sig := { parameters := [], returnType := none }, accessFlags := 2, code := none }
def k2c1 : Code := { maxStack := 2, maxLocals := 1, code := prog_32_method_6_code, exceptionTable := #[], attributes := #[] }
def k2m1 : Method := { name := "lowestNext", desc := "(I)I", sig := { parameters := [.int], returnType := some .int }, accessFlags := 8, code := some k2c1 }
/-- formwire/Utf8 -/
def k2 : Class := { plain "formwire/Utf8" (some 0) with
  accessFlags := 48
  interfaces := #[]
  cf := some (fileOf pool2 8 #[] #[{ accessFlags := 2, nameIndex := 5, descriptorIndex := 6, attributes := #[] }, { accessFlags := 8, nameIndex := 26, descriptorIndex := 16, attributes := #[] }] 48 2 #[] #[{ accessFlags := 26, nameIndex := 64, descriptorIndex := 65, attributes := #[] }, { accessFlags := 26, nameIndex := 52, descriptorIndex := 53, attributes := #[] }])
  fields := #[{ name := "REPLACEMENT", type := .char, accessFlags := 26, slot := 0, constantValue := 0 }, { name := "SEQUENCES", type := (.array .int), accessFlags := 26, slot := 1, constantValue := 0 }]
  methods := #[k2m0, k2m1]
  instanceTypes := #[]
  staticTypes := #[.char, (.array .int)]
  resolved := Array.replicate 81 none
  statics := some 0 }

def pool3 : Array CpInfo := pool [(1, u "java/lang/Cloneable"), (0, .class_ 1), (0, u "java/lang/Object"), (0, .class_ 3)] 3

/-- java/lang/Cloneable -/
def k3 : Class := { plain "java/lang/Cloneable" (some 0) with
  accessFlags := 1537
  interfaces := #[]
  cf := some (fileOf pool3 2 #[] #[] 1537 4 #[] #[])
  fields := #[]
  methods := #[]
  instanceTypes := #[]
  staticTypes := #[]
  resolved := Array.replicate 8 none
  statics := none }

def pool4 : Array CpInfo := pool [(1, u "java/io/Serializable"), (0, .class_ 1), (0, u "java/lang/Object"), (0, .class_ 3)] 3

/-- java/io/Serializable -/
def k4 : Class := { plain "java/io/Serializable" (some 0) with
  accessFlags := 1537
  interfaces := #[]
  cf := some (fileOf pool4 2 #[] #[] 1537 4 #[] #[])
  fields := #[]
  methods := #[]
  instanceTypes := #[]
  staticTypes := #[]
  resolved := Array.replicate 8 none
  statics := none }

/-- the primitive byte -/
def k5 : Class := { plain "byte" none with kind := .primitive 'B', accessFlags := 0x411 }
/-- [B -/
def k6 : Class := { plain "[B" (some 0) with kind := .array 5 .byte, interfaces := #[3, 4], accessFlags := 1041 }

/-- the primitive int -/
def k7 : Class := { plain "int" none with kind := .primitive 'I', accessFlags := 0x411 }
/-- [I -/
def k8 : Class := { plain "[I" (some 0) with kind := .array 7 .int, interfaces := #[3, 4], accessFlags := 1041 }

def heap : Heap := #[{ cls := 2, slots := #[.int 0, .ref 1], vm := .statics 2 },
  { cls := 8, slots := #[.int 0, .int 0, .int 0, .int 0, .int 0, .int 0, .int 0, .int 0, .int 0, .int 0, .int 0, .int 0, .int 0, .int 0, .int 0, .int 0, .int 0, .int 0, .int 0, .int 0, .int 0, .int 0, .int 0, .int 0, .int 0, .int 0, .int 0, .int 0, .int 0, .int 0, .int 0, .int 0, .int 0, .int 0, .int 0, .int 0, .int 0, .int 0, .int 0, .int 0, .int 0, .int 0, .int 0, .int 0, .int 0, .int 0, .int 0, .int 0, .int 0, .int 0, .int 0, .int 0, .int 0, .int 0, .int 0, .int 0, .int 0, .int 0, .int 0, .int 0, .int 0, .int 0, .int 0, .int 0, .int 0, .int 0, .int 0, .int 0, .int 0, .int 0, .int 0, .int 0, .int 0, .int 0, .int 0, .int 0, .int 0, .int 0, .int 0, .int 0, .int 0, .int 0, .int 0, .int 0, .int 0, .int 0, .int 0, .int 0, .int 0, .int 0, .int 0, .int 0, .int 0, .int 0, .int 0, .int 0, .int 0, .int 0, .int 0, .int 0, .int 0, .int 0, .int 0, .int 0, .int 0, .int 0, .int 0, .int 0, .int 0, .int 0, .int 0, .int 0, .int 0, .int 0, .int 0, .int 0, .int 0, .int 0, .int 0, .int 0, .int 0, .int 0, .int 0, .int 0, .int 0, .int 0, .int 0, .int 0, .int 0, .int 0, .int 0, .int 0, .int 0, .int 0, .int 0, .int 0, .int 0, .int 0, .int 0, .int 0, .int 0, .int 0, .int 0, .int 0, .int 0, .int 0, .int 0, .int 0, .int 0, .int 0, .int 0, .int 0, .int 0, .int 0, .int 0, .int 0, .int 0, .int 0, .int 0, .int 0, .int 0, .int 0, .int 0, .int 0, .int 0, .int 0, .int 0, .int 0, .int 0, .int 0, .int 0, .int 0, .int 0, .int 0, .int 0, .int 0, .int 0, .int 0, .int 0, .int 0, .int 0, .int 0, .int 0, .int 0, .int 0, .int 0, .int 0, .int 0, .int 0, .int 0, .int 0, .int 0, .int 0, .int 0, .int 98495, .int 98495, .int 98495, .int 98495, .int 98495, .int 98495, .int 98495, .int 98495, .int 98495, .int 98495, .int 98495, .int 98495, .int 98495, .int 98495, .int 98495, .int 98495, .int 98495, .int 98495, .int 98495, .int 98495, .int 98495, .int 98495, .int 98495, .int 98495, .int 98495, .int 98495, .int 98495, .int 98495, .int 98495, .int 98495, .int 172223, .int 164031, .int 164031, .int 164031, .int 164031, .int 164031, .int 164031, .int 164031, .int 164031, .int 164031, .int 164031, .int 164031, .int 164031, .int 163999, .int 164031, .int 164031, .int 233663, .int 229567, .int 229567, .int 229567, .int 229519, .int 0, .int 0, .int 0, .int 0, .int 0, .int 0, .int 0, .int 0, .int 0, .int 0, .int 0], vm := .none }]
def classes : Array Class := #[k0, k1, k2, k3, k4, k5, k6, k7, k8]
def interned : List (Array UInt16 × Addr) := []
def slotsUsed : Nat := 258
def theMethod : MethodId := ⟨1, 1⟩
def args0 : Array Value := #[.int 5]
def aboutOver (below : List Frame) : State where
  vm := { classes := classes, interned := interned.toArray }
  heap := heap
  slotsUsed := slotsUsed
  threads := #[{ frames := .invoking theMethod args0 :: below }]
def below0 : List Frame := [.native { method := ⟨0, 0⟩, args := #[] }]
def about1 : State := aboutOver below0
def p0 : Program := .bare "" "" ""
def e0 : Env := launch0.env 0 0 0
theorem w_frames : about1.frames = Frame.invoking theMethod args0 :: below0 := rfl
set_option maxRecDepth 65536 in
theorem w_args : argsFit about1.vm theMethod args0 = true := by decide +kernel
set_option maxRecDepth 65536 in
theorem w_heap : heapFits about1 = true := by decide +kernel
set_option maxRecDepth 65536 in
theorem w_runnable : about1.curStatus? = some .runnable := by decide +kernel
set_option maxRecDepth 65536 in
theorem w_alone : about1.alone = true := by decide +kernel
set_option maxRecDepth 65536 in
theorem w_named : about1.methodNamed? x = some theMethod := by decide +kernel
set_option maxRecDepth 65536 in
theorem w_hears : about1.hears theMethod below0 = true := by decide +kernel
set_option maxRecDepth 65536 in
theorem w_ripe : about1.ripe theMethod args0 below0 = true := by decide +kernel
theorem w_running : about1.status = .running := rfl
set_option maxRecDepth 65536 in
theorem w_room : about1.hasRoom e0.platform room_1 = true :=
  launch0.hasRoom_least _ room_1 (by decide +kernel) (by decide +kernel) (by decide +kernel) (by decide +kernel) (by decide +kernel) (by decide +kernel)
theorem allAtoms_all (ts : List Jvm.Cond) (a : Array Jvm.Value) (st : Jvm.State) : (allAtoms ts).before a st = ts.all (fun c => c.before a st) := by
  induction ts with
  | nil => rfl
  | cons c t ih =>
    show (Jvm.Cond.and c (allAtoms t)).before a st = _
    rw [Jvm.Cond.before_and, ih, List.all_cons]
def words1 : List Jvm.Cond := Jvm.Cond.code x code maxLocals ret :: tables_1
/-- a 'code' word, met by the world's own term for the bytes: nothing is compared byte by byte -/
theorem code_word {y : MethodName} {bytes : ByteArray} {mx : Nat} {rt : Option FieldType} {a : Array Value} {s : State} {m : MethodId} {meth : Method} {c : Code} (h1 : s.methodNamed? y = some m) (h2 : s.vm.method? m = some meth) (h3 : meth.code = some c) (h4 : c.code = bytes)
    (h5 : (c.maxLocals == mx && c.exceptionTable.isEmpty && decide (c.maxStack ≤ mostOperands) && decide (meth.sig.returnType = rt) && !meth.locks && decide (parseMethodDescriptor y.desc = some meth.sig)) = true) : (Jvm.Cond.code y bytes mx rt).before a s = true := by
  simp only [Bool.and_eq_true, beq_iff_eq, Bool.not_eq_true', decide_eq_true_eq] at h5
  obtain ⟨⟨⟨⟨⟨g1, g2⟩, g3⟩, g4⟩, g5⟩, g6⟩ := h5
  simp [Cond.before, Cond.holds, Cond.value, h1, h2, h3, h4, g1, g2, g3, g4, g5, g6]
def isCode : Jvm.Cond → Bool
  | .code _ _ _ _ => true
  | _ => false
theorem all_split {L : List Jvm.Cond} {P : Jvm.Cond → Bool} (h1 : L.all (fun c => isCode c || P c) = true) (h2 : ∀ c ∈ L.filter isCode, P c = true) : L.all P = true := by
  refine List.all_eq_true.mpr fun c hc => ?_
  have h := List.all_eq_true.mp h1 c hc
  rcases Bool.eq_false_or_eq_true (isCode c) with hi | hi
  · exact h2 c (List.mem_filter.mpr ⟨hc, hi⟩)
  · simpa [hi] using h
set_option maxRecDepth 65536 in
theorem w_c0 : (Jvm.Cond.code x code maxLocals ret).before args0 about1 = true := code_word (m := ⟨1, 1⟩) (meth := k1m1) (c := k1c1) (by decide +kernel) rfl rfl rfl (by decide +kernel)
set_option maxRecDepth 65536 in
theorem w_c1 : (Jvm.Cond.code ({ cls := "formwire/Utf8", name := "lowestNext", desc := "(I)I" } : Jvm.MethodName) prog_32_method_6_code (1 : Nat) (Option.some Jvm.ClassFile.FieldType.int)).before args0 about1 = true := code_word (m := ⟨2, 1⟩) (meth := k2m1) (c := k2c1) (by decide +kernel) rfl rfl rfl (by decide +kernel)
def codes1 : List Jvm.Cond := [Jvm.Cond.code x code maxLocals ret, Jvm.Cond.code ({ cls := "formwire/Utf8", name := "lowestNext", desc := "(I)I" } : Jvm.MethodName) prog_32_method_6_code (1 : Nat) (Option.some Jvm.ClassFile.FieldType.int)]
set_option maxRecDepth 65536 in
theorem codes_eq : words1.filter isCode = codes1 := rfl
theorem w_codes : ∀ c ∈ words1.filter isCode, c.before args0 about1 = true := by
  rw [codes_eq]
  intro c hc
  simp only [codes1, List.mem_cons, List.not_mem_nil, or_false] at hc
  rcases hc with rfl | rfl
  · exact w_c0
  · exact w_c1
set_option maxRecDepth 65536 in
theorem w_t1 : words1.all (fun c => isCode c || c.before args0 about1) = true := by decide +kernel
theorem w_tables : (allAtoms (Jvm.Cond.code x code maxLocals ret :: tables_1)).before args0 about1 = true := by
  rw [allAtoms_all]
  show words1.all (fun c => c.before args0 about1) = true
  refine all_split ?_ w_codes
  rw [w_t1]
set_option maxRecDepth 65536 in
theorem w_case : (Jvm.Cond.and given_1 narrow_1).before args0 about1 = true := by decide +kernel
theorem w_applies : (headSpec (Jvm.Cond.code x code maxLocals ret :: tables_1) room_1).applies x e0.platform about1 = true :=
  (Spec.applies_iff w_frames).mpr ⟨w_running, w_runnable, w_alone, w_named, w_hears, w_ripe, w_room, w_tables⟩
theorem atStart : AtStart classFile x code maxLocals ret World_1 tables_1 room_1 Calls_1 rest_1 Pre_1 launch0 p0 e0 about1 theMethod args0 below0 :=
  ⟨lists_1, trivial, launch0.admits_env _ _ _, launch0.least_env, fairChoices_fair.cas, fairChoices_fair.clock, w_frames, w_args, w_heap, w_applies, trivial, trivial, w_case⟩
end start1
theorem witness_1 : WitnessClaimed_1 := ⟨start1.p0, start1.e0, start1.about1, start1.theMethod, start1.args0, start1.below0, start1.atStart⟩
end Jvm.Pilot.@@N@@
